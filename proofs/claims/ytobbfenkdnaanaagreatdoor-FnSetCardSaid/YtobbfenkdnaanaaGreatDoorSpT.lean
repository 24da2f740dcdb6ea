/- The reference's SetText and MetricText, by contract. -/
import Derived.Test.YtobbfenkdnaanaaGreatDoorMsA
import Derived.Test.YtobbfenkdnaanaaGreatDoorSpBB
import Derived.Deep.RegionHeld3
import Derived.Deep.RegionLaw
import Derived.Deep.AppendLies
set_option linter.unusedVariables false
set_option linter.unusedSimpArgs false
namespace Go.Proofs.YtobbfenkdnaanaaGreatDoor
open Go.RowKit Go.Maps Go.WideMaps Go.Sort Go.Proofs

theorem take_map (T : Lib.PrintTabs) (l : LL) (i : Nat) (h : i < l.length) : (l.take (i + 1)).map (rtB T) = (l.take i).map (rtB T) ++ [rtB T (l[i]'h)] := by
  rw [List.take_succ_eq_append_getElem h, List.map_append]
  rfl

set_option maxHeartbeats 2000000 in
set_option maxRecDepth 100000 in
theorem specText_calls (T : Lib.PrintTabs) (a : Option Addr) (cap : Nat) (l : LL) (w : World) (hl : Labs w a l) (hs : Sized l) (hT : Lib.PrintTabsAt 8 9 10 11 T w) (hU : Lib.Utf8Tabs 0 1 w) :
    Calls Tryz.prog 34 #[.slice a l.length cap] w fun e w' => e = .returned (.string (setT T l)) ∧ Below w.heap.size w w' := by
  have HL := Aside0.mk hl
  have HSA := Aside0.mk hs
  have HTU := Aside0.mk (And.intro hT hU)
  have HLB := Aside0.mk (show ∀ b off, a = some ⟨b, off, none⟩ → l ≠ [] → b < w.heap.size from fun b off ha hn => by
    rcases hl with h | ⟨b', off', ha', hlt, _⟩
    · exact absurd h hn
    · rw [ha] at ha'
      cases ha'
      exact hlt)
  obtain ⟨i0, hi, hz0, hz1, hz2⟩ := info_parts infoS
  have HI := Aside0.mk (And.intro hi (And.intro hz0 (And.intro hz1 hz2)))
  have hlen := hs.1
  clear hl hs hT hU hi hz0 hz1 hz2
  go_enter Tryz.func34, Tryz.ntmps34
  go_wp2_with fail
  go_loopg [3, 4] (l.length + 1) (fun g v3 v4 w' => ∃ i : Nat, v4 = .int .i64 (i : Int) ∧ i + g = l.length + 1 ∧ i ≤ l.length ∧ Aside0 (RowN w' w.heap.size 9 v3 ((l.take i).map (rtB T))) ∧ Aside0 (Below w.heap.size w w'))
  case atStart => exact ⟨0, rfl, by omega, by omega, ⟨World.ownsRow_nil _ _ _ _⟩, ⟨Below.refl _ _⟩⟩
  case round =>
    obtain ⟨i, rfl, hig, hile, HR, HBW⟩ := hrel
    by_cases hlt : i < l.length
    · obtain ⟨g1, rfl⟩ : ∃ m, gk = m + 1 := ⟨gk - 1, by omega⟩
      rcases HL.out.next HBW.out with h | ⟨b, off, ha, hblt, hc⟩
      · rw [h] at hlt; simp at hlt
      subst ha
      have c0 := (hc i hlt).1
      have c1 := (hc i hlt).2
      obtain ⟨x, hx⟩ : ∃ x, (l[i]'hlt).1 = x := ⟨_, rfl⟩
      obtain ⟨v, hv⟩ : ∃ v, (l[i]'hlt).2 = v := ⟨_, rfl⟩
      rw [hx] at c0
      rw [hv] at c1
      have hsz : x.size ≤ 300 ∧ v.size ≤ 300 := by
        have := HSA.out.2 _ (List.getElem_mem hlt)
        rw [hx, hv] at this
        exact this
      have HXY := Aside0.mk (show l[i]'hlt = (x, v) by rw [← hx, ← hv])
      have HLW := Aside0.mk hblt
      clear hc hx hv
      have HLB := Aside0.mk (HLB.out b off rfl (fun e => by rw [e] at hlt; simp at hlt))
      have HPL := Aside0.mk (show ((l.take i).map (rtB T)).length ≤ 20 by rw [List.length_map, List.length_take]; omega)
      obtain ⟨rs, hrs⟩ : ∃ rs, (l.take i).map (rtB T) = rs := ⟨_, rfl⟩
      rw [hrs] at HR HPL
      have HRS := Aside0.mk hrs
      clear hrs
      have hb1 : ¬ 9223372036854775807 < x.size + 1 := by omega
      have hql : (strOfNums (Lib.quoteZ T v)).size ≤ 3002 := by rw [strOfNums_size]; have := quoteZ_len T v; omega
      obtain ⟨q, hq⟩ : ∃ q, strOfNums (Lib.quoteZ T v) = q := ⟨_, rfl⟩
      rw [hq] at hql
      have hb2 : ¬ 9223372036854775807 < x.size + 1 + q.size := by omega
      have HQC := Aside0.mk (show ∀ W, Below wr.heap.size wr W → Calls Tryz.prog 100 #[.string v] W fun e w' => e = .returned (.string q) ∧ Below W.heap.size W w' from fun W hb => by
        rw [← hq]
        exact quote_calls T v W hsz.2 (printTabs_below HTU.out.1 (below_step HBW.out hb)) (Utf8Tabs_below HTU.out.2 (below_step HBW.out hb)))
      have HQE := Aside0.mk hq
      have HKX := Aside0.mk (show ∀ w', Below wr.heap.size wr w' → (fun w' : World => w'.cell? ⟨b, off + i * 2, none⟩ = some (.string x) ∧ w'.cell? ⟨b, off + i * 2 + 1, none⟩ = some (.string v)) w' from fun w' hb => ⟨(hb.cell (p := ⟨b, off + i * 2, none⟩) hblt).trans c0, (hb.cell (p := ⟨b, off + i * 2 + 1, none⟩) hblt).trans c1⟩)
      have HNE := Aside0.mk (show some b ≠ u3.ownBlock from fun e => by have := HLB.out; have h2 := (World.ownsRow.lt HR.out _ e.symm).1; omega)
      have HBD := Aside0.mk ((Below.refl wr.heap.size wr).drew)
      clear hsz hq hql hblt
      go_wp2_with fail
      go_region_held3 (fun w' : World => w'.cell? ⟨b, off + i * 2, none⟩ = some (.string x) ∧ w'.cell? ⟨b, off + i * 2 + 1, none⟩ = some (.string v)) (first | assumption | (refine HKX.out _ ?_; with_reducible first | exact HBD.out | exact below_alloc HB1.out _)) (first
        | (go_at_call 100; refine Calls.mono (HQC.out _ HBD.out) ?_; rintro e w1 ⟨rfl, hbl1⟩; have HB1 := Aside0.mk (below_step HBD.out hbl1); have hS1 := HKX.out _ HB1.out; have HR1 := Aside0.mk (HR.out.nextB HB1.out); clear hbl1)
        | (refine step_append_lies _ rfl _ _ 81 rfl w.heap.size 9 i0 (.string ⟨#[]⟩) 1 16 Tryz.underlying81 HI.out.1 HI.out.2.1 HI.out.2.2.1 HI.out.2.2.2 rfl (by decide) _ _ _ rfl (World.ownsRow.alloc HR1.out _) ⟨w1.heap.size, 0, none⟩ 1 1 [.string (x ++ ⟨#[61]⟩ ++ q)] rfl rfl (cell_one_new _ _ _) (by simp [Value.oneCell']) (by decide) (by have := HPL.out; unfold maxLen; omega) (by have := HPL.out; omega) ?hbase _ rfl ?_; (case hbase => (have h1 := HBW.out.size; have h2 := HB1.out.size; simp at h2 ⊢; omega)); intro g5 cap5 w5 hown5 hg5 hat5 hlt5; have HX5 := Aside0.mk (And.intro hown5 hg5); have hS5 : w5.cell? ⟨b, off + i * 2, none⟩ = some (.string x) ∧ w5.cell? ⟨b, off + i * 2 + 1, none⟩ = some (.string v) := (by obtain ⟨y0, y1⟩ := HKX.out _ (below_alloc HB1.out (.cells #[.string (x ++ ⟨#[61]⟩ ++ q)] 9)); exact ⟨(hg5.cell_far ⟨b, off + i * 2, none⟩ (by have := HLW.out; have h2 := HB1.out.size; simp; omega) HNE.out).trans y0, (hg5.cell_far ⟨b, off + i * 2 + 1, none⟩ (by have := HLW.out; have h2 := HB1.out.size; simp; omega) HNE.out).trans y1⟩); clear hown5 hg5))
      go_wp2_with fail
      go_roundg g1
      case measure => omega
      case rel =>
        obtain ⟨hown, hg5⟩ := HX5.out
        have hbw1 : Below wr.heap.size wr (w1.alloc (.cells #[.string (x ++ ⟨#[61]⟩ ++ q)] 9)) := below_alloc HB1.out _
        refine ⟨i + 1, by go_num, by omega, by omega, ⟨?_⟩, ⟨?_⟩⟩
        · show RowN w5 w.heap.size 9 _ ((l.take (i + 1)).map (rtB T))
          rw [take_map T l i hlt, HXY.out, show rtB T (x, v) = x ++ ⟨#[61]⟩ ++ q by unfold rtB; rw [HQE.out], HRS.out]
          unfold RowN
          simpa using hown
        · exact (below_step HBW.out hbw1).grown hg5 (by have := hbw1.size; have := HBW.out.size; omega) (fun k hk => (World.ownsRow.lt HR1.out k hk).1)
    · obtain rfl : i = l.length := by omega
      have hr := HR.out
      rw [List.take_length] at hr
      obtain ⟨rs, hrs⟩ : ∃ rs, l.map (rtB T) = rs := ⟨_, rfl⟩
      have hrl : rs.length = l.length := by rw [← hrs, List.length_map]
      have hrm : ∀ y ∈ rs, y.size ≤ 3303 := fun y hy => by
        rw [← hrs] at hy
        obtain ⟨p, hp, rfl⟩ := List.mem_map.1 hy
        have h2 := HSA.out.2 p hp
        exact rtB_size T p h2.1 h2.2
      have HE := Aside0.mk (show setT T l = ⟨#[123]⟩ ++ joinB rs ++ ⟨#[125]⟩ by unfold setT; rw [hrs])
      rw [hrs] at hr
      have hjs : (joinB rs).size ≤ 100000 := join_len (ks := rs) (by omega) hrm
      obtain ⟨jt, hjt⟩ : ∃ jt, joinB rs = jt := ⟨_, rfl⟩
      rw [hjt] at HE hjs
      have hb1 : ¬ 9223372036854775807 < 1 + jt.size := by omega
      have hb2 : ¬ 9223372036854775807 < 1 + jt.size + 1 := by omega
      rcases hr.2 with ⟨hv, h0⟩ | ⟨g, cap', cur, hv, hbase, _⟩
      · subst hv
        have hrn : rs = [] := List.eq_nil_of_length_eq_zero h0
        have HE2 := Aside0.mk (show setT T l = ⟨#[123, 125]⟩ by
          rw [HE.out, ← hjt, hrn]
          rfl)
        clear hr hrs hrl hrm hjs hjt hb1 hb2 h0 hrn
        go_wp2_with fail
        refine (join_none _ _ _).mono ?_
        rintro e w1 ⟨rfl, rfl⟩
        go_wp2_with fail
        go_ret
        exact ⟨by rw [HE2.out]; rfl, HBW.out⟩
      · subst hv
        have HJ := Aside0.mk (join_calls hr (by omega) hrm)
        rw [hjt] at HJ
        clear hr hrs hrl hrm hjs hjt hbase
        go_wp2_with fail
        refine HJ.out.mono ?_
        rintro e w1 ⟨rfl, hb⟩
        have HB1 := Aside0.mk (below_step HBW.out hb)
        clear hb
        go_wp2_with fail
        go_ret
        exact ⟨by rw [HE.out]; rfl, HB1.out⟩

set_option maxHeartbeats 2000000 in
set_option maxRecDepth 100000 in
theorem specMetric_calls (T : Lib.PrintTabs) (a : Option Addr) (cap : Nat) (l : LL) (w : World) (hl : Labs w a l) (hs : Sized l) (ho : Once l) (hT : Lib.PrintTabsAt 8 9 10 11 T w) (hU : Lib.Utf8Tabs 0 1 w) :
    Calls Tryz.prog 35 #[.slice a l.length cap] w fun e w' => e = .returned (.string (metT T l)) ∧ Below w.heap.size w w' := by
  have HL := Aside0.mk hl
  have HSA := Aside0.mk hs
  have HTU := Aside0.mk (And.intro hT hU)
  have HLB := Aside0.mk (show ∀ b off, a = some ⟨b, off, none⟩ → l ≠ [] → b < w.heap.size from fun b off ha hn => by
    rcases hl with h | ⟨b', off', ha', hlt, _⟩
    · exact absurd h hn
    · rw [ha] at ha'
      cases ha'
      exact hlt)
  obtain ⟨i0, hi, hz0, hz1, hz2⟩ := info_parts infoS
  have HI := Aside0.mk (And.intro hi (And.intro hz0 (And.intro hz1 hz2)))
  have hlen := hs.1
  have hol := outL_len ho
  obtain ⟨nm, hnm⟩ : ∃ nm, (getL l nameB).getD ⟨#[]⟩ = nm := ⟨_, rfl⟩
  obtain ⟨k, hk⟩ : ∃ k, (outL l).length = k := ⟨_, rfl⟩
  have HK := Aside0.mk (And.intro hk hnm)
  rw [hk] at hol
  clear hl hs ho hT hU hi hz0 hz1 hz2 hk
  cases hh : (getL l nameB).isSome with
  | true =>
    rw [hh, if_pos rfl] at hol
    have hkl : k ≤ l.length := by omega
    clear hol
    have HH := Aside0.mk hh
    go_enter Tryz.func35, Tryz.ntmps35
    go_wp2_with fail
    refine (specGet_calls a cap l nameB _ HL.out hlen).mono ?_
    rintro e w0 ⟨rfl, hb0⟩
    rw [hnm, hh]
    have HB0 := Aside0.mk hb0
    clear hb0
    go_wp2_with fail
    go_loopg [5, 6] (l.length + 1) (fun g v5 v6 w' => ∃ i : Nat, v6 = .int .i64 (i : Int) ∧ i + g = l.length + 1 ∧ i ≤ l.length ∧ Aside0 (RowN w' w.heap.size 9 v5 (outB T (l.take i))) ∧ Aside0 (Below w.heap.size w w'))
    case atStart => exact ⟨0, rfl, by omega, by omega, ⟨World.ownsRow_nil _ _ _ _⟩, HB0⟩
    case round =>
      obtain ⟨i, rfl, hig, hile, HR, HBW⟩ := hrel
      by_cases hlt : i < l.length
      · obtain ⟨g1, rfl⟩ : ∃ m, gk = m + 1 := ⟨gk - 1, by omega⟩
        rcases HL.out.next HBW.out with h | ⟨b, off, ha, hblt, hc⟩
        · rw [h] at hlt; simp at hlt
        subst ha
        have c0 := (hc i hlt).1
        have c1 := (hc i hlt).2
        obtain ⟨x, hx⟩ : ∃ x, (l[i]'hlt).1 = x := ⟨_, rfl⟩
        obtain ⟨v, hv⟩ : ∃ v, (l[i]'hlt).2 = v := ⟨_, rfl⟩
        rw [hx] at c0
        rw [hv] at c1
        have hsz : x.size ≤ 300 ∧ v.size ≤ 300 := by
          have := HSA.out.2 _ (List.getElem_mem hlt)
          rw [hx, hv] at this
          exact this
        have HXY := Aside0.mk (show l[i]'hlt = (x, v) by rw [← hx, ← hv])
        have HLW := Aside0.mk hblt
        clear hc hx hv
        have HTK := Aside0.mk (show l.take (i + 1) = l.take i ++ [(x, v)] by rw [List.take_succ_eq_append_getElem hlt, HXY.out])
        by_cases hx : x = nameB
        · subst hx
          clear hblt
          go_wp2_with fail
          go_roundg g1
          case measure => omega
          case rel => exact ⟨i + 1, by go_num, by omega, by omega, ⟨by
            have := HR.out
            unfold outB at this ⊢
            rw [HTK.out, outL_snoc_name]
            exact this⟩, HBW⟩
        · have cn : (x.toList == [95, 95, 110, 97, 109, 101, 95, 95]) = false := name_ne hx
          have HXN := Aside0.mk hx
          clear hx
          have HLB := Aside0.mk (HLB.out b off rfl (fun e => by rw [e] at hlt; simp at hlt))
          have HPL := Aside0.mk (show (outB T (l.take i)).length ≤ 20 by unfold outB; rw [List.length_map]; have := outL_le (l.take i); rw [List.length_take] at this; omega)
          obtain ⟨rs, hrs⟩ : ∃ rs, outB T (l.take i) = rs := ⟨_, rfl⟩
          rw [hrs] at HR HPL
          have HRS := Aside0.mk hrs
          clear hrs
          have hb1 : ¬ 9223372036854775807 < x.size + 1 := by omega
          have hql : (strOfNums (Lib.quoteZ T v)).size ≤ 3002 := by rw [strOfNums_size]; have := quoteZ_len T v; omega
          obtain ⟨q, hq⟩ : ∃ q, strOfNums (Lib.quoteZ T v) = q := ⟨_, rfl⟩
          rw [hq] at hql
          have hb2 : ¬ 9223372036854775807 < x.size + 1 + q.size := by omega
          have HQC := Aside0.mk (show ∀ W, Below wr.heap.size wr W → Calls Tryz.prog 100 #[.string v] W fun e w' => e = .returned (.string q) ∧ Below W.heap.size W w' from fun W hb => by
            rw [← hq]
            exact quote_calls T v W hsz.2 (printTabs_below HTU.out.1 (below_step HBW.out hb)) (Utf8Tabs_below HTU.out.2 (below_step HBW.out hb)))
          have HQE := Aside0.mk hq
          have HKX := Aside0.mk (show ∀ w', Below wr.heap.size wr w' → (fun w' : World => w'.cell? ⟨b, off + i * 2, none⟩ = some (.string x) ∧ w'.cell? ⟨b, off + i * 2 + 1, none⟩ = some (.string v)) w' from fun w' hb => ⟨(hb.cell (p := ⟨b, off + i * 2, none⟩) hblt).trans c0, (hb.cell (p := ⟨b, off + i * 2 + 1, none⟩) hblt).trans c1⟩)
          have HNE := Aside0.mk (show some b ≠ u5.ownBlock from fun e => by have := HLB.out; have h2 := (World.ownsRow.lt HR.out _ e.symm).1; omega)
          have HBD := Aside0.mk ((Below.refl wr.heap.size wr).drew)
          clear hsz hq hql hblt
          go_wp2_with fail
          go_region_held3 (fun w' : World => w'.cell? ⟨b, off + i * 2, none⟩ = some (.string x) ∧ w'.cell? ⟨b, off + i * 2 + 1, none⟩ = some (.string v)) (first | assumption | (refine HKX.out _ ?_; with_reducible first | exact HBD.out | exact below_alloc HB1.out _)) (first
            | (go_at_call 100; refine Calls.mono (HQC.out _ HBD.out) ?_; rintro e w1 ⟨rfl, hbl1⟩; have HB1 := Aside0.mk (below_step HBD.out hbl1); have hS1 := HKX.out _ HB1.out; have HR1 := Aside0.mk (HR.out.nextB HB1.out); clear hbl1)
            | (refine step_append_lies _ rfl _ _ 81 rfl w.heap.size 9 i0 (.string ⟨#[]⟩) 1 16 Tryz.underlying81 HI.out.1 HI.out.2.1 HI.out.2.2.1 HI.out.2.2.2 rfl (by decide) _ _ _ rfl (World.ownsRow.alloc HR1.out _) ⟨w1.heap.size, 0, none⟩ 1 1 [.string (x ++ ⟨#[61]⟩ ++ q)] rfl rfl (cell_one_new _ _ _) (by simp [Value.oneCell']) (by decide) (by have := HPL.out; unfold maxLen; omega) (by have := HPL.out; omega) ?hbase _ rfl ?_; (case hbase => (have h1 := HBW.out.size; have h2 := HB1.out.size; simp at h2 ⊢; omega)); intro g5 cap5 w5 hown5 hg5 hat5 hlt5; have HX5 := Aside0.mk (And.intro hown5 hg5); have hS5 : w5.cell? ⟨b, off + i * 2, none⟩ = some (.string x) ∧ w5.cell? ⟨b, off + i * 2 + 1, none⟩ = some (.string v) := (by obtain ⟨y0, y1⟩ := HKX.out _ (below_alloc HB1.out (.cells #[.string (x ++ ⟨#[61]⟩ ++ q)] 9)); exact ⟨(hg5.cell_far ⟨b, off + i * 2, none⟩ (by have := HLW.out; have h2 := HB1.out.size; simp; omega) HNE.out).trans y0, (hg5.cell_far ⟨b, off + i * 2 + 1, none⟩ (by have := HLW.out; have h2 := HB1.out.size; simp; omega) HNE.out).trans y1⟩); clear hown5 hg5))
          go_wp2_with fail
          go_roundg g1
          case measure => omega
          case rel =>
            obtain ⟨hown, hg5⟩ := HX5.out
            have hbw1 : Below wr.heap.size wr (w1.alloc (.cells #[.string (x ++ ⟨#[61]⟩ ++ q)] 9)) := below_alloc HB1.out _
            refine ⟨i + 1, by go_num, by omega, by omega, ⟨?_⟩, ⟨?_⟩⟩
            · show RowN w5 w.heap.size 9 _ (outB T (l.take (i + 1)))
              rw [show outB T (l.take (i + 1)) = rs ++ [x ++ ⟨#[61]⟩ ++ q] by
                rw [← HRS.out]
                unfold outB
                rw [HTK.out, outL_snoc _ _ _ HXN.out, List.map_append]
                show _ ++ [rtB T (x, v)] = _
                rw [show rtB T (x, v) = x ++ ⟨#[61]⟩ ++ q by unfold rtB; rw [HQE.out]]]
              unfold RowN
              simpa using hown
            · exact (below_step HBW.out hbw1).grown hg5 (by have := hbw1.size; have := HBW.out.size; omega) (fun k hk => (World.ownsRow.lt HR1.out k hk).1)
      · obtain rfl : i = l.length := by omega
        have HR2 := HR.out
        rw [List.take_length] at HR2
        have HRE := Aside0.mk HR2
        have HKD := Aside0.mk (show (outB T l).length = k by unfold outB; rw [List.length_map]; exact HK.out.1)
        obtain ⟨ao, cp, hform⟩ : ∃ ao cp, u5 = .slice ao k cp := by
          rcases HR2.2 with ⟨hv, h0⟩ | ⟨g, cap', cur, hv, _⟩
          · exact ⟨none, 0, by rw [hv, ← HKD.out, h0]⟩
          · exact ⟨_, _, by rw [hv, HKD.out]⟩
        subst hform
        by_cases hk0 : k = 0
        · have HM := Aside0.mk (show metT T l = nm by
            unfold metT
            rw [if_pos (HK.out.1.trans hk0), HH.out]
            exact HK.out.2)
          have c0 : ((k : Int) == 0) = true := by simp [hk0]
          clear hk0 HR2
          go_wp2_with fail
          go_ret
          exact ⟨by rw [HM.out]; rfl, HBW.out⟩
        · have c0 : ((k : Int) == 0) = false := beq_eq_false_iff_ne.2 (by omega)
          have HM := Aside0.mk (show metT T l = nm ++ ⟨#[123]⟩ ++ joinB (sortN (outB T l)) ++ ⟨#[125]⟩ by
            unfold metT
            rw [if_neg (by rw [HK.out.1]; exact hk0), HK.out.2])
          obtain ⟨g, hgo, hbase⟩ : ∃ g, ao = some ⟨g, 0, none⟩ ∧ w.heap.size ≤ g := by
            rcases HR2.2 with ⟨hv, h0⟩ | ⟨g, cap', cur, hv, hb, _⟩
            · cases hv; exact absurd rfl hk0
            · cases hv; exact ⟨g, rfl, hb⟩
          subst hgo
          have HBS := Aside0.mk hbase
          have HS := Aside0.mk (sort_row sortAt_strings HR2 (by rw [HKD.out]; have := HSA.out.1; omega) HKD.out.symm)
          have hnz : nm.size ≤ 300 := by
            rw [← HK.out.2]
            cases hg : getL l nameB with
            | none => exact Nat.zero_le _
            | some u => exact (HSA.out.2 _ (getL_some hg)).2
          have hmem : ∀ x ∈ sortN (outB T l), x.size ≤ 3303 := fun x hx => by
            have := sortN_mem hx
            unfold outB at this
            obtain ⟨p, hp, rfl⟩ := List.mem_map.1 this
            have h2 := HSA.out.2 p (outL_mem hp)
            exact rtB_size T p h2.1 h2.2
          have hk20 : (sortN (outB T l)).length ≤ 20 := by rw [sortN_length, HKD.out]; omega
          have hjs : (joinB (sortN (outB T l))).size ≤ 100000 := join_len hk20 hmem
          have HJ := Aside0.mk (fun (W : World) (h : RowN W w.heap.size 9 (.slice (some ⟨g, 0, none⟩) k cp) (sortN (outB T l))) => join_calls h hk20 hmem)
          obtain ⟨jt, hjt⟩ : ∃ jt, joinB (sortN (outB T l)) = jt := ⟨_, rfl⟩
          rw [hjt] at HM HJ hjs
          have hb1 : ¬ 9223372036854775807 < nm.size + 1 := by omega
          have hb2 : ¬ 9223372036854775807 < nm.size + 1 + jt.size := by omega
          have hb3 : ¬ 9223372036854775807 < nm.size + 1 + jt.size + 1 := by omega
          clear hk0 hnz hmem hk20 hjs hjt HR2 hbase
          go_wp2_with fail
          refine HS.out.mono ?_
          rintro e w4 ⟨rfl, hrow4, hg4⟩
          have HB4 := Aside0.mk (HBW.out.grown hg4 HBW.out.size (fun k hk => by cases hk; exact HBS.out))
          have HC := Aside0.mk (HJ.out w4 hrow4)
          clear hrow4 hg4
          go_wp2_with fail
          refine HC.out.mono ?_
          rintro e w5 ⟨rfl, hb5⟩
          have HB5 := Aside0.mk (below_step HB4.out hb5)
          clear hb5
          go_wp2_with fail
          go_ret
          exact ⟨by rw [HM.out]; rfl, HB5.out⟩
  | false =>
    rw [hh] at hol
    simp only [Bool.false_eq_true, if_false, Nat.add_zero] at hol
    have hkl : k ≤ l.length := by omega
    clear hol
    have HH := Aside0.mk hh
    go_enter Tryz.func35, Tryz.ntmps35
    go_wp2_with fail
    refine (specGet_calls a cap l nameB _ HL.out hlen).mono ?_
    rintro e w0 ⟨rfl, hb0⟩
    rw [hnm, hh]
    have HB0 := Aside0.mk hb0
    clear hb0
    go_wp2_with fail
    go_loopg [5, 6] (l.length + 1) (fun g v5 v6 w' => ∃ i : Nat, v6 = .int .i64 (i : Int) ∧ i + g = l.length + 1 ∧ i ≤ l.length ∧ Aside0 (RowN w' w.heap.size 9 v5 (outB T (l.take i))) ∧ Aside0 (Below w.heap.size w w'))
    case atStart => exact ⟨0, rfl, by omega, by omega, ⟨World.ownsRow_nil _ _ _ _⟩, HB0⟩
    case round =>
      obtain ⟨i, rfl, hig, hile, HR, HBW⟩ := hrel
      by_cases hlt : i < l.length
      · obtain ⟨g1, rfl⟩ : ∃ m, gk = m + 1 := ⟨gk - 1, by omega⟩
        rcases HL.out.next HBW.out with h | ⟨b, off, ha, hblt, hc⟩
        · rw [h] at hlt; simp at hlt
        subst ha
        have c0 := (hc i hlt).1
        have c1 := (hc i hlt).2
        obtain ⟨x, hx⟩ : ∃ x, (l[i]'hlt).1 = x := ⟨_, rfl⟩
        obtain ⟨v, hv⟩ : ∃ v, (l[i]'hlt).2 = v := ⟨_, rfl⟩
        rw [hx] at c0
        rw [hv] at c1
        have hsz : x.size ≤ 300 ∧ v.size ≤ 300 := by
          have := HSA.out.2 _ (List.getElem_mem hlt)
          rw [hx, hv] at this
          exact this
        have HXY := Aside0.mk (show l[i]'hlt = (x, v) by rw [← hx, ← hv])
        have HLW := Aside0.mk hblt
        clear hc hx hv
        have HTK := Aside0.mk (show l.take (i + 1) = l.take i ++ [(x, v)] by rw [List.take_succ_eq_append_getElem hlt, HXY.out])
        by_cases hx : x = nameB
        · subst hx
          clear hblt
          go_wp2_with fail
          go_roundg g1
          case measure => omega
          case rel => exact ⟨i + 1, by go_num, by omega, by omega, ⟨by
            have := HR.out
            unfold outB at this ⊢
            rw [HTK.out, outL_snoc_name]
            exact this⟩, HBW⟩
        · have cn : (x.toList == [95, 95, 110, 97, 109, 101, 95, 95]) = false := name_ne hx
          have HXN := Aside0.mk hx
          clear hx
          have HLB := Aside0.mk (HLB.out b off rfl (fun e => by rw [e] at hlt; simp at hlt))
          have HPL := Aside0.mk (show (outB T (l.take i)).length ≤ 20 by unfold outB; rw [List.length_map]; have := outL_le (l.take i); rw [List.length_take] at this; omega)
          obtain ⟨rs, hrs⟩ : ∃ rs, outB T (l.take i) = rs := ⟨_, rfl⟩
          rw [hrs] at HR HPL
          have HRS := Aside0.mk hrs
          clear hrs
          have hb1 : ¬ 9223372036854775807 < x.size + 1 := by omega
          have hql : (strOfNums (Lib.quoteZ T v)).size ≤ 3002 := by rw [strOfNums_size]; have := quoteZ_len T v; omega
          obtain ⟨q, hq⟩ : ∃ q, strOfNums (Lib.quoteZ T v) = q := ⟨_, rfl⟩
          rw [hq] at hql
          have hb2 : ¬ 9223372036854775807 < x.size + 1 + q.size := by omega
          have HQC := Aside0.mk (show ∀ W, Below wr.heap.size wr W → Calls Tryz.prog 100 #[.string v] W fun e w' => e = .returned (.string q) ∧ Below W.heap.size W w' from fun W hb => by
            rw [← hq]
            exact quote_calls T v W hsz.2 (printTabs_below HTU.out.1 (below_step HBW.out hb)) (Utf8Tabs_below HTU.out.2 (below_step HBW.out hb)))
          have HQE := Aside0.mk hq
          have HKX := Aside0.mk (show ∀ w', Below wr.heap.size wr w' → (fun w' : World => w'.cell? ⟨b, off + i * 2, none⟩ = some (.string x) ∧ w'.cell? ⟨b, off + i * 2 + 1, none⟩ = some (.string v)) w' from fun w' hb => ⟨(hb.cell (p := ⟨b, off + i * 2, none⟩) hblt).trans c0, (hb.cell (p := ⟨b, off + i * 2 + 1, none⟩) hblt).trans c1⟩)
          have HNE := Aside0.mk (show some b ≠ u5.ownBlock from fun e => by have := HLB.out; have h2 := (World.ownsRow.lt HR.out _ e.symm).1; omega)
          have HBD := Aside0.mk ((Below.refl wr.heap.size wr).drew)
          clear hsz hq hql hblt
          go_wp2_with fail
          go_region_held3 (fun w' : World => w'.cell? ⟨b, off + i * 2, none⟩ = some (.string x) ∧ w'.cell? ⟨b, off + i * 2 + 1, none⟩ = some (.string v)) (first | assumption | (refine HKX.out _ ?_; with_reducible first | exact HBD.out | exact below_alloc HB1.out _)) (first
            | (go_at_call 100; refine Calls.mono (HQC.out _ HBD.out) ?_; rintro e w1 ⟨rfl, hbl1⟩; have HB1 := Aside0.mk (below_step HBD.out hbl1); have hS1 := HKX.out _ HB1.out; have HR1 := Aside0.mk (HR.out.nextB HB1.out); clear hbl1)
            | (refine step_append_lies _ rfl _ _ 81 rfl w.heap.size 9 i0 (.string ⟨#[]⟩) 1 16 Tryz.underlying81 HI.out.1 HI.out.2.1 HI.out.2.2.1 HI.out.2.2.2 rfl (by decide) _ _ _ rfl (World.ownsRow.alloc HR1.out _) ⟨w1.heap.size, 0, none⟩ 1 1 [.string (x ++ ⟨#[61]⟩ ++ q)] rfl rfl (cell_one_new _ _ _) (by simp [Value.oneCell']) (by decide) (by have := HPL.out; unfold maxLen; omega) (by have := HPL.out; omega) ?hbase _ rfl ?_; (case hbase => (have h1 := HBW.out.size; have h2 := HB1.out.size; simp at h2 ⊢; omega)); intro g5 cap5 w5 hown5 hg5 hat5 hlt5; have HX5 := Aside0.mk (And.intro hown5 hg5); have hS5 : w5.cell? ⟨b, off + i * 2, none⟩ = some (.string x) ∧ w5.cell? ⟨b, off + i * 2 + 1, none⟩ = some (.string v) := (by obtain ⟨y0, y1⟩ := HKX.out _ (below_alloc HB1.out (.cells #[.string (x ++ ⟨#[61]⟩ ++ q)] 9)); exact ⟨(hg5.cell_far ⟨b, off + i * 2, none⟩ (by have := HLW.out; have h2 := HB1.out.size; simp; omega) HNE.out).trans y0, (hg5.cell_far ⟨b, off + i * 2 + 1, none⟩ (by have := HLW.out; have h2 := HB1.out.size; simp; omega) HNE.out).trans y1⟩); clear hown5 hg5))
          go_wp2_with fail
          go_roundg g1
          case measure => omega
          case rel =>
            obtain ⟨hown, hg5⟩ := HX5.out
            have hbw1 : Below wr.heap.size wr (w1.alloc (.cells #[.string (x ++ ⟨#[61]⟩ ++ q)] 9)) := below_alloc HB1.out _
            refine ⟨i + 1, by go_num, by omega, by omega, ⟨?_⟩, ⟨?_⟩⟩
            · show RowN w5 w.heap.size 9 _ (outB T (l.take (i + 1)))
              rw [show outB T (l.take (i + 1)) = rs ++ [x ++ ⟨#[61]⟩ ++ q] by
                rw [← HRS.out]
                unfold outB
                rw [HTK.out, outL_snoc _ _ _ HXN.out, List.map_append]
                show _ ++ [rtB T (x, v)] = _
                rw [show rtB T (x, v) = x ++ ⟨#[61]⟩ ++ q by unfold rtB; rw [HQE.out]]]
              unfold RowN
              simpa using hown
            · exact (below_step HBW.out hbw1).grown hg5 (by have := hbw1.size; have := HBW.out.size; omega) (fun k hk => (World.ownsRow.lt HR1.out k hk).1)
      · obtain rfl : i = l.length := by omega
        have HR2 := HR.out
        rw [List.take_length] at HR2
        have HRE := Aside0.mk HR2
        have HKD := Aside0.mk (show (outB T l).length = k by unfold outB; rw [List.length_map]; exact HK.out.1)
        obtain ⟨ao, cp, hform⟩ : ∃ ao cp, u5 = .slice ao k cp := by
          rcases HR2.2 with ⟨hv, h0⟩ | ⟨g, cap', cur, hv, _⟩
          · exact ⟨none, 0, by rw [hv, ← HKD.out, h0]⟩
          · exact ⟨_, _, by rw [hv, HKD.out]⟩
        subst hform
        by_cases hk0 : k = 0
        · have HM := Aside0.mk (show metT T l = ⟨#[123, 125]⟩ by
            unfold metT
            rw [if_pos (HK.out.1.trans hk0), HH.out]
            rfl)
          have c0 : ((k : Int) == 0) = true := by simp [hk0]
          clear hk0 HR2
          go_wp2_with fail
          go_ret
          exact ⟨by rw [HM.out]; rfl, HBW.out⟩
        · have c0 : ((k : Int) == 0) = false := beq_eq_false_iff_ne.2 (by omega)
          have HM := Aside0.mk (show metT T l = nm ++ ⟨#[123]⟩ ++ joinB (sortN (outB T l)) ++ ⟨#[125]⟩ by
            unfold metT
            rw [if_neg (by rw [HK.out.1]; exact hk0), HK.out.2])
          obtain ⟨g, hgo, hbase⟩ : ∃ g, ao = some ⟨g, 0, none⟩ ∧ w.heap.size ≤ g := by
            rcases HR2.2 with ⟨hv, h0⟩ | ⟨g, cap', cur, hv, hb, _⟩
            · cases hv; exact absurd rfl hk0
            · cases hv; exact ⟨g, rfl, hb⟩
          subst hgo
          have HBS := Aside0.mk hbase
          have HS := Aside0.mk (sort_row sortAt_strings HR2 (by rw [HKD.out]; have := HSA.out.1; omega) HKD.out.symm)
          have hnz : nm.size ≤ 300 := by
            rw [← HK.out.2]
            cases hg : getL l nameB with
            | none => exact Nat.zero_le _
            | some u => exact (HSA.out.2 _ (getL_some hg)).2
          have hmem : ∀ x ∈ sortN (outB T l), x.size ≤ 3303 := fun x hx => by
            have := sortN_mem hx
            unfold outB at this
            obtain ⟨p, hp, rfl⟩ := List.mem_map.1 this
            have h2 := HSA.out.2 p (outL_mem hp)
            exact rtB_size T p h2.1 h2.2
          have hk20 : (sortN (outB T l)).length ≤ 20 := by rw [sortN_length, HKD.out]; omega
          have hjs : (joinB (sortN (outB T l))).size ≤ 100000 := join_len hk20 hmem
          have HJ := Aside0.mk (fun (W : World) (h : RowN W w.heap.size 9 (.slice (some ⟨g, 0, none⟩) k cp) (sortN (outB T l))) => join_calls h hk20 hmem)
          obtain ⟨jt, hjt⟩ : ∃ jt, joinB (sortN (outB T l)) = jt := ⟨_, rfl⟩
          rw [hjt] at HM HJ hjs
          have hb1 : ¬ 9223372036854775807 < nm.size + 1 := by omega
          have hb2 : ¬ 9223372036854775807 < nm.size + 1 + jt.size := by omega
          have hb3 : ¬ 9223372036854775807 < nm.size + 1 + jt.size + 1 := by omega
          clear hk0 hnz hmem hk20 hjs hjt HR2 hbase
          go_wp2_with fail
          refine HS.out.mono ?_
          rintro e w4 ⟨rfl, hrow4, hg4⟩
          have HB4 := Aside0.mk (HBW.out.grown hg4 HBW.out.size (fun k hk => by cases hk; exact HBS.out))
          have HC := Aside0.mk (HJ.out w4 hrow4)
          clear hrow4 hg4
          go_wp2_with fail
          refine HC.out.mono ?_
          rintro e w5 ⟨rfl, hb5⟩
          have HB5 := Aside0.mk (below_step HB4.out hb5)
          clear hb5
          go_wp2_with fail
          go_ret
          exact ⟨by rw [HM.out]; rfl, HB5.out⟩
end Go.Proofs.YtobbfenkdnaanaaGreatDoor
