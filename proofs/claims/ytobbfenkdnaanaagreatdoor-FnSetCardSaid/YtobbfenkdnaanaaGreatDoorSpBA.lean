/- The reference's Before, by contract. -/
import Derived.Test.YtobbfenkdnaanaaGreatDoorRowL
import Derived.Laws.AppendOwnNone
import Derived.Test.YtobbfenkdnaanaaGreatDoorSpFA
set_option linter.unusedVariables false
set_option linter.unusedSimpArgs false
namespace Go.Proofs.YtobbfenkdnaanaaGreatDoor
open Go.RowKit Go.Maps Go.WideMaps Go.Sort

theorem infoS : (Tryz.prog.info? 9).map (fun i => (i.zero, i.size, i.bytes)) = some (some (.string ⟨#[]⟩), 1, 16) := by kernel_rfl
theorem infoL : (Tryz.prog.info? 70).map (fun i => (i.zero, i.size, i.bytes)) = some (some (.agg #[.string ⟨#[]⟩, .string ⟨#[]⟩]), 2, 32) := by kernel_rfl

set_option maxHeartbeats 1000000 in
set_option maxRecDepth 100000 in
theorem specBefore2_calls (a a' : Option Addr) (cap cap' : Nat) (la lb : LL) (w : World) (hla : Labs w a la) (hlb : Labs w a' lb) (hsa : Sized la) (hsb : Sized lb) (heq : lb.length = la.length) (h0 : la.length ≠ 0) :
    Calls Tryz.prog 15 #[.slice a la.length cap, .slice a' lb.length cap'] w fun e w' => e = .returned (.bool (befB la lb)) ∧ Below w.heap.size w w' := by
  rcases hla with h | ⟨b, off, ha, hblt, hc⟩
  · rw [h] at h0; simp at h0
  rcases hlb with h | ⟨b', off', ha', hblt', hc'⟩
  · rw [← heq, h] at h0; simp at h0
  subst ha
  subst ha'
  have HLA := Aside0.mk (show Labs w (some ⟨b, off, none⟩) la from .inr ⟨b, off, rfl, hblt, hc⟩)
  have HLB := Aside0.mk (show Labs w (some ⟨b', off', none⟩) lb from .inr ⟨b', off', rfl, hblt', hc'⟩)
  have HCA := Aside0.mk (labs_cells hc)
  have HCB := Aside0.mk (labs_cells hc')
  have HBL := Aside0.mk (And.intro hblt hblt')
  have HSA := Aside0.mk hsa
  have HSB := Aside0.mk hsb
  have HEQ := Aside0.mk heq
  have hlena := hsa.1
  have H0 := Aside0.mk h0
  have HF := Aside0.mk (show befB la lb = bef la lb (sortN ((la ++ lb).map Prod.fst)) by unfold befB; rw [if_neg (by omega), if_neg (by omega), List.map_append])
  obtain ⟨i0, hi, hz0, hz1, hz2⟩ := info_parts infoL
  have HI := Aside0.mk (And.intro hi (And.intro hz0 (And.intro hz1 hz2)))
  obtain ⟨j0, ki, kz0, kz1, kz2⟩ := info_parts infoS
  have KI := Aside0.mk (And.intro ki (And.intro kz0 (And.intro kz1 kz2)))
  have HR0 := Aside0.mk (rowLb_empty w)
  clear hi hz0 hz1 hz2 ki kz0 kz1 kz2 hsa hsb h0 hc hc' hblt hblt'
  have HNA := Aside0.mk (show ∀ (j : Nat) (u : Value), (cellsL la)[j]? = some u → (w.alloc (.cells #[] 70)).cell? ((⟨b, off, none⟩ : Addr).add j) = some u from fun j u hu => by
    rw [addr_add]
    exact (hcellb (below_alloc (Below.refl w.heap.size w) _) HBL.out.1 _).trans (by have := HCA.out j u hu; rwa [addr_add] at this))
  go_enter Tryz.func15, Tryz.ntmps15
  go_wp2_with (at_builtin; refine wpList_append_own _ rfl _ _ 22 rfl w.heap.size 70 i0 (.agg #[.string ⟨#[]⟩, .string ⟨#[]⟩]) 2 32 Tryz.underlying22 HI.out.1 HI.out.2.1 HI.out.2.2.1 HI.out.2.2.2 rfl (by decide) (.slice (some ⟨w.heap.size, 0, none⟩) 0 0) _ _ rfl HR0.out ⟨b, off, none⟩ la.length cap (cellsL la) rfl (cellsL_length la) HNA.out (cellsL_one la) ?q1 ?q2 ?q3 ?_)
  case q1 => rw [List.length_nil]; unfold maxLen; omega
  case q2 => rw [List.length_nil]; omega
  case q3 => simp
  intro v1 w1 ho1 hg1 hn1
  have HO1 := Aside0.mk (show RowLb w1 w.heap.size v1 la by
    exact ho1)
  have HV1 := Aside0.mk (show v1 ≠ .slice none 0 0 from hn1)
  have HB1 := Aside0.mk ((below_alloc (Below.refl w.heap.size w) _).grown hg1 (by simp) (fun k hk => by simp [Value.ownBlock] at hk; omega))
  have HNB := Aside0.mk (show ∀ (j : Nat) (u : Value), (cellsL lb)[j]? = some u → w1.cell? ((⟨b', off', none⟩ : Addr).add j) = some u from fun j u hu => by
    rw [addr_add]
    exact (hcellb HB1.out HBL.out.2 _).trans (by have := HCB.out j u hu; rwa [addr_add] at this))
  have HCL := Aside0.mk (show (cellsL lb).length = la.length * 2 by rw [cellsL_length, heq])
  have HROW := Aside0.mk (show ∀ (v2 : Value) (w2 : World), w2.ownsRow w.heap.size 70 2 v2 (la.length + la.length) (cellsL la ++ cellsL lb) → (v2 = .slice none 0 0 ↔ v1 = .slice none 0 0 ∧ la.length = 0) → ∃ g cap2, v2 = .slice (some ⟨g, 0, none⟩) (la.length + la.length) cap2 ∧ RowLb w2 w.heap.size v2 (la ++ lb) ∧ g < w2.heap.size from fun v2 w2 ho2 hn2 => by
    have ho2' : RowLb w2 w.heap.size v2 (la ++ lb) := by
      show World.ownsRow w2 w.heap.size 70 2 v2 (la ++ lb).length (cellsL (la ++ lb))
      rw [List.length_append, cellsL_append, heq]
      exact ho2
    have hv2 : v2 ≠ .slice none 0 0 := fun e => HV1.out ((hn2.1 e).1)
    obtain ⟨g, cap2, hv, hgb, hgl⟩ := ho2'.form hv2
    rw [List.length_append, heq] at hv
    exact ⟨g, cap2, hv, ho2', hgl⟩)
  clear ho1 hg1 hn1 HR0
  go_wp2_with (at_builtin; refine wpList_append_own _ rfl _ _ 22 rfl w.heap.size 70 i0 (.agg #[.string ⟨#[]⟩, .string ⟨#[]⟩]) 2 32 Tryz.underlying22 HI.out.1 HI.out.2.1 HI.out.2.2.1 HI.out.2.2.2 rfl (by decide) v1 _ _ rfl HO1.out ⟨b', off', none⟩ la.length cap' (cellsL lb) rfl HCL.out HNB.out (cellsL_one lb) ?q1 ?q2 ?q3 ?_; (case q1 => unfold maxLen; omega); (case q2 => omega); (case q3 => exact HB1.out.size); intro v2 w2 ho2 hg2 hn2; obtain ⟨g, cap2, rfl, hrow2, hgl⟩ := HROW.out v2 w2 ho2 hn2; clear ho2 hn2)
  have HB2 := Aside0.mk (HB1.out.grown hg2 HB1.out.size (fun k hk => (World.ownsRow.lt HO1.out k hk).1))
  have HL2 := Aside0.mk (And.intro hrow2.labs.1 hgl)
  have hs2 := HB2.out.size
  have HLL := Aside0.mk (show (la ++ lb).length = la.length + la.length by rw [List.length_append, heq])
  clear hrow2 hg2 hgl
  go_wp2_with fail
  have HS2 := Aside0.mk hs2
  clear hs2
  go_loopg [5, 29] (la.length + la.length + 1) (fun g1 v5 v29 w' => ∃ i : Nat, v29 = .int .i64 (i : Int) ∧ i + g1 = la.length + la.length + 1 ∧ i ≤ la.length + la.length ∧ Aside0 (RowN w' w2.heap.size 9 v5 (((la ++ lb).take i).map Prod.fst)) ∧ Aside0 (0 < i → v5 ≠ .slice none 0 0) ∧ Aside0 (Below w2.heap.size w2 w'))
  case atStart => exact ⟨0, rfl, by omega, by omega, ⟨World.ownsRow_nil _ _ _ _⟩, ⟨fun h => absurd h (by omega)⟩, ⟨Below.refl _ _⟩⟩
  case round =>
    obtain ⟨i, rfl, hig, hile, HN, HV, HBW⟩ := hrel
    by_cases hlt : i < la.length + la.length
    · obtain ⟨g1, rfl⟩ : ∃ m, gk = m + 1 := ⟨gk - 1, by omega⟩
      have hlk : i < (la ++ lb).length := by rw [HLL.out]; exact hlt
      rcases HL2.out.1.next HBW.out with h | ⟨b1, off1, hb1, hblt, hc⟩
      · rw [h] at hlk; simp at hlk
      cases hb1
      have c0 := (hc i hlk).1
      have c1 := (hc i hlk).2
      rw [Nat.zero_add] at c0 c1
      have htk : ((la ++ lb).take (i + 1)).map Prod.fst = ((la ++ lb).take i).map Prod.fst ++ [((la ++ lb)[i]'hlk).1] := by
        rw [List.take_add_one, List.getElem?_eq_getElem hlk, List.map_append]
        rfl
      obtain ⟨x, hx⟩ : ∃ x, ((la ++ lb)[i]'hlk).1 = x := ⟨_, rfl⟩
      obtain ⟨y, hy⟩ : ∃ y, ((la ++ lb)[i]'hlk).2 = y := ⟨_, rfl⟩
      rw [hx] at c0 htk
      rw [hy] at c1
      have HT := Aside0.mk htk
      have HNL := Aside0.mk (show (((la ++ lb).take i).map Prod.fst).length = i by rw [List.length_map, List.length_take]; omega)
      have HCN := Aside0.mk (show ∀ (j : Nat) (u : Value), [Value.string x][j]? = some u → ((wr.alloc (.cells #[.string x, .string y] 70)).alloc (.cells #[.string x] 9)).cell? ((⟨wr.heap.size + 1, 0, none⟩ : Addr).add j) = some u from by
        have := cell_one_new (wr.alloc (.cells #[.string x, .string y] 70)) (.string x) 9
        simpa using this)
      have HAL := Aside0.mk ((HN.out.alloc (.cells #[.string x, .string y] 70)).alloc (.cells #[.string x] 9))
      clear hc hx hy hblt htk hlk
      go_wp2_with (at_builtin; refine wpList_append_own _ rfl _ _ 81 rfl w2.heap.size 9 j0 (.string ⟨#[]⟩) 1 16 Tryz.underlying81 KI.out.1 KI.out.2.1 KI.out.2.2.1 KI.out.2.2.2 rfl (by decide) _ _ _ rfl HAL.out ⟨wr.heap.size + 1, 0, none⟩ 1 1 [.string x] rfl rfl HCN.out ?q0 ?q1 ?q2 ?q3 ?_; (case q0 => (simp [Value.oneCell'])); (case q1 => (rw [HNL.out]; unfold maxLen; omega)); (case q2 => (rw [HNL.out]; omega)); (case q3 => (have := HBW.out.size; simp; omega)); intro v' w3 hown' hg3 hnil3; have HR3 := Aside0.mk hown'; have HG3 := Aside0.mk (And.intro hg3 hnil3); clear hown' hg3 hnil3)
      try go_frame
      go_roundg g1
      case measure => omega
      case rel =>
        refine ⟨i + 1, by go_num, by omega, by omega, ⟨?_⟩, ⟨fun _ hv' => by have := (HG3.out.2.1 hv').2; omega⟩, ⟨?_⟩⟩
        · rw [HT.out]
          have := HR3.out
          simpa [RowN] using this
        · exact (below_alloc (below_alloc HBW.out _) _).grown HG3.out.1 (by have := HBW.out.size; simp; omega) (fun j hj => (World.ownsRow.lt HN.out j hj).1)
    · have HIE := Aside0.mk (show (la ++ lb).take i = la ++ lb from List.take_of_length_le (by rw [HLL.out]; omega))
      have HNE := Aside0.mk (HV.out (by have := H0.out; omega))
      obtain ⟨g3, cap3, hv, hbase⟩ := HN.out.form HNE.out
      rw [List.length_map, HIE.out, HLL.out] at hv
      subst hv
      have hrn := HN.out
      rw [HIE.out] at hrn
      have HS := Aside0.mk (sort_row sortAt_strings hrn (by rw [List.length_map, HLL.out]; omega) (by rw [List.length_map, HLL.out]))
      have HBS := Aside0.mk hbase
      clear hrn hbase hig hile
      go_wp2_with (go_at_call 56; refine HS.out.mono ?_; rintro e w4 ⟨rfl, hrow4, hg4⟩; have HR4 := Aside0.mk hrow4; have HG4 := Aside0.mk hg4; clear hrow4 hg4)
      have HB4 := Aside0.mk ((HB2.out.trans (HBW.out.mono HB2.out.size)).grown HG4.out (Nat.le_trans HB2.out.size HBW.out.size) (fun k hk => by cases hk; exact Nat.le_trans HB2.out.size HBS.out))
      have HL4A := Aside0.mk (HLA.out.next HB4.out)
      have HL4B := Aside0.mk (HLB.out.next HB4.out)
      obtain ⟨ks, hkse⟩ : ∃ ks, sortN ((la ++ lb).map Prod.fst) = ks := ⟨_, rfl⟩
      have hrow5 := HR4.out
      rw [hkse] at hrow5
      have HG3L := Aside0.mk (World.ownsRow.lt hrow5 g3 rfl).2
      have hkl : ks.length = la.length + la.length := by rw [← hkse, sortN_length, List.length_map, HLL.out]
      have HR6 := Aside0.mk hrow5
      have HKS := Aside0.mk (And.intro hkse hkl)
      have hlb20 : lb.length ≤ 20 := HSB.out.1
      have HLB20 := Aside0.mk hlb20
      clear hkse hrow5 hlb20
      go_loopg [8] (la.length + la.length + 1) (fun g2 v8 w' => ∃ i : Nat, v8 = .int .i64 (i : Int) ∧ i + g2 = la.length + la.length + 1 ∧ i ≤ la.length + la.length ∧ Aside0 (bef la lb (ks.drop i) = bef la lb ks) ∧ Aside0 (Below w4.heap.size w4 w'))
      case atStart => exact ⟨0, rfl, by omega, by omega, ⟨by rw [List.drop_zero]⟩, ⟨Below.refl _ _⟩⟩
      case round =>
        clear hlt
        obtain ⟨i, rfl, hig, hile, HBF, HBW⟩ := hrel
        by_cases hlt : i < la.length + la.length
        · obtain ⟨g1, rfl⟩ : ∃ m, gk = m + 1 := ⟨gk - 1, by omega⟩
          have hlk : i < ks.length := by rw [hkl]; exact hlt
          have c0 := (hcellb HBW.out HG3L.out i).trans (HR6.out.cell i hlk)
          have hdr := HBF.out
          rw [List.drop_eq_getElem_cons hlk] at hdr
          obtain ⟨x, hx⟩ : ∃ x, ks[i]'hlk = x := ⟨_, rfl⟩
          have c4 := HR6.out.cell i hlk
          rw [hx] at c0 hdr c4
          have C0 := Aside0.mk c4
          have HGA1 := Aside0.mk (specGet_calls (some ⟨b, off, none⟩) cap la x wr (HL4A.out.next HBW.out) (by omega))
          have HGB0 := Aside0.mk (show ∀ W : World, Below w4.heap.size w4 W → Calls Tryz.prog 20 #[.slice (some ⟨b', off', none⟩) la.length cap', .string x] W fun e w' => e = .returned (.tuple #[.string ((getL lb x).getD ⟨#[]⟩), .bool (getL lb x).isSome]) ∧ Below W.heap.size W w' from fun W hW => by
            have h := specGet_calls (some ⟨b', off', none⟩) cap' lb x W (HL4B.out.next hW) HLB20.out
            rw [HEQ.out] at h
            exact h)
          have hlt' : (i : Int) < (la.length : Int) + (la.length : Int) := by omega
          clear hx hlk hkl c4
          cases hga : getL la x with
          | none =>
            have HGA := Aside0.mk hga
            obtain ⟨ub, hub⟩ : ∃ ub, getL lb x = ub := ⟨_, rfl⟩
            have HGB := Aside0.mk hub
            have HE := Aside0.mk (show befB la lb = true by rw [HF.out, HKS.out.1, ← hdr]; simp [bef, hga])
            clear hga hdr hub
            go_wp2_with (first
              | (go_at_call_of 20 (Value.slice (some ⟨b, off, none⟩) la.length cap); refine HGA1.out.mono ?_; rintro e wa ⟨rfl, hba⟩; rw [HGA.out]; have HBA := Aside0.mk (HBW.out.trans (hba.mono HBW.out.size)); have e2 := (hcellb HBA.out HG3L.out i).trans C0.out; have HGB1 := Aside0.mk (HGB0.out wa HBA.out); clear hba)
              | (go_at_call_of 20 (Value.slice (some ⟨b', off', none⟩) la.length cap'); refine HGB1.out.mono ?_; rintro e wb ⟨rfl, hbb⟩; rw [HGB.out]; have HBB := Aside0.mk (HBA.out.trans (hbb.mono HBA.out.size)); clear hbb))
            go_ret
            exact ⟨by rw [HE.out]; rfl, below_step HB4.out HBB.out⟩
          | some u =>
            have HGA := Aside0.mk hga
            cases hgb : getL lb x with
            | none =>
              have HGB := Aside0.mk hgb
              have HE := Aside0.mk (show befB la lb = false by rw [HF.out, HKS.out.1, ← hdr]; simp [bef, hga, hgb])
              clear hga hgb hdr
              go_wp2_with (first
                | (go_at_call_of 20 (Value.slice (some ⟨b, off, none⟩) la.length cap); refine HGA1.out.mono ?_; rintro e wa ⟨rfl, hba⟩; rw [HGA.out]; have HBA := Aside0.mk (HBW.out.trans (hba.mono HBW.out.size)); have e2 := (hcellb HBA.out HG3L.out i).trans C0.out; have HGB1 := Aside0.mk (HGB0.out wa HBA.out); clear hba)
                | (go_at_call_of 20 (Value.slice (some ⟨b', off', none⟩) la.length cap'); refine HGB1.out.mono ?_; rintro e wb ⟨rfl, hbb⟩; rw [HGB.out]; have HBB := Aside0.mk (HBA.out.trans (hbb.mono HBA.out.size)); clear hbb))
              go_ret
              exact ⟨by rw [HE.out]; rfl, below_step HB4.out HBB.out⟩
            | some y =>
              have HGB := Aside0.mk hgb
              by_cases huy : u = y
              · subst huy
                have h4 : (u.toList == u.toList) = true := beq_same u
                have HE := Aside0.mk (show bef la lb (ks.drop (i + 1)) = bef la lb ks by rw [← hdr]; simp [bef, hga, hgb])
                clear hga hgb hdr
                go_wp2_with (first
                  | (go_at_call_of 20 (Value.slice (some ⟨b, off, none⟩) la.length cap); refine HGA1.out.mono ?_; rintro e wa ⟨rfl, hba⟩; rw [HGA.out]; have HBA := Aside0.mk (HBW.out.trans (hba.mono HBW.out.size)); have e2 := (hcellb HBA.out HG3L.out i).trans C0.out; have HGB1 := Aside0.mk (HGB0.out wa HBA.out); clear hba)
                  | (go_at_call_of 20 (Value.slice (some ⟨b', off', none⟩) la.length cap'); refine HGB1.out.mono ?_; rintro e wb ⟨rfl, hbb⟩; rw [HGB.out]; have HBB := Aside0.mk (HBA.out.trans (hbb.mono HBA.out.size)); clear hbb))
                go_roundg g1
                case measure => omega
                case rel => exact ⟨i + 1, by go_num, by omega, by omega, HE, HBB⟩
              · have h4 : (u.toList == y.toList) = false := beq_ne huy
                have h5 : ¬ u.toList = y.toList := fun e => by rw [e] at h4; simp at h4
                clear huy
                have HE := Aside0.mk (show befB la lb = Op.bytesLess u.toList y.toList by rw [HF.out, HKS.out.1, ← hdr]; simp [bef, hga, hgb, h5])
                clear hga hgb hdr h5
                go_wp2_with (first
                  | (go_at_call_of 20 (Value.slice (some ⟨b, off, none⟩) la.length cap); refine HGA1.out.mono ?_; rintro e wa ⟨rfl, hba⟩; rw [HGA.out]; have HBA := Aside0.mk (HBW.out.trans (hba.mono HBW.out.size)); have e2 := (hcellb HBA.out HG3L.out i).trans C0.out; have HGB1 := Aside0.mk (HGB0.out wa HBA.out); clear hba)
                  | (go_at_call_of 20 (Value.slice (some ⟨b', off', none⟩) la.length cap'); refine HGB1.out.mono ?_; rintro e wb ⟨rfl, hbb⟩; rw [HGB.out]; have HBB := Aside0.mk (HBA.out.trans (hbb.mono HBA.out.size)); clear hbb))
                go_ret
                exact ⟨by rw [HE.out]; rfl, below_step HB4.out HBB.out⟩
        · have HE := Aside0.mk (show befB la lb = false by
            have h1 := HBF.out
            rw [List.drop_of_length_le (by omega)] at h1
            rw [HF.out, HKS.out.1, ← h1]
            rfl)
          have hge : ¬ ((i : Int) < (la.length : Int) + (la.length : Int)) := by omega
          clear hig hile
          go_wp2_with fail
          go_ret
          exact ⟨by rw [HE.out]; rfl, below_step HB4.out HBW.out⟩
end Go.Proofs.YtobbfenkdnaanaaGreatDoor
