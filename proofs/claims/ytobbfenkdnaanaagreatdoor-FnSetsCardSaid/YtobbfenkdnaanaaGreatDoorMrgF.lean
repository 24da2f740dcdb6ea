/- The reference's Filter, by the names that another list lacks. -/
import Derived.Test.YtobbfenkdnaanaaGreatDoorRowL
import Derived.Test.YtobbfenkdnaanaaGreatDoorMrgM
set_option linter.unusedVariables false
set_option linter.unusedSimpArgs false
namespace Go.Proofs.YtobbfenkdnaanaaGreatDoor
open Go.RowKit Go.Maps Go.WideMaps Go.Sort

theorem infoLb : (Tryz.prog.info? 70).map (fun i => (i.zero, i.size, i.bytes)) = some (some (.agg #[.string ⟨#[]⟩, .string ⟨#[]⟩]), 2, 32) := by kernel_rfl

set_option maxHeartbeats 1000000 in
set_option maxRecDepth 100000 in
theorem isnot_calls (B : Nat) (a' : Option Addr) (cap' : Nat) (lb : LL) (x v : ByteArray) (w : World) (hc : w.cell? ⟨B, 0, none⟩ = some (.slice a' lb.length cap')) (hB : B < w.heap.size) (hl : Labs w a' lb) (hs : lb.length ≤ 20) :
    Calls Tryz.prog 81 #[.agg #[.string x, .string v], .pointer (some ⟨B, 0, none⟩)] w fun e w' => e = .returned (.bool (getL lb x).isNone) ∧ Below w.heap.size w w' := by
  have HK := Aside0.mk (below_alloc (Below.refl w.heap.size w) (Obj.cells #[Value.string x, Value.string v] 70))
  have HL := Aside0.mk (hl.next HK.out)
  have c1 := (HK.out.cell (p := ⟨B, 0, none⟩) hB).trans hc
  have HS := Aside0.mk hs
  clear hl hc hs
  go_enter Tryz.func81, Tryz.ntmps81
  go_wp2_with fail
  refine (specGet_calls a' cap' lb x _ HL.out HS.out).mono ?_
  rintro e w1 ⟨rfl, hb⟩
  have HB1 := Aside0.mk (below_step HK.out hb)
  clear hb
  go_wp2
  go_ret
  refine ⟨?_, HB1.out⟩
  cases getL lb x <;> rfl

theorem cell_two_new (w : World) (x y : Value) (e : TypeId) : ∀ (j : Nat) (u : Value), [x, y][j]? = some u → (w.alloc (.cells #[x, y] e)).cell? ((⟨w.heap.size, 0, none⟩ : Addr).add j) = some u := by
  intro j u h
  rw [addr_add]
  rcases j with _ | _ | j
  · cases h; simp [go_sem]
  · cases h; simp [go_sem]
  · simp at h
theorem RowLb.next {w w' : World} {base : Nat} {v : Value} {l : LL} (h : RowLb w base v l) (hb : Below w.heap.size w w') : RowLb w' base v l := by
  obtain ⟨h1, h2⟩ := h
  refine ⟨h1, h2.imp id ?_⟩
  rintro ⟨g, cap, cur, hv, hbase, hg, h3, h4, h5, h6⟩
  exact ⟨g, cap, cur, hv, hbase, (hb.block g (Array.getElem?_eq_some_iff.1 hg).1).trans hg, h3, h4, h5, h6⟩
theorem filtL_take {la lb : LL} {i : Nat} (h : i < la.length) : filtL (la.take (i + 1)) lb = filtL (la.take i) lb ++ (if (getL lb (la[i]'h).1).isNone then [la[i]'h] else []) := by
  unfold filtL
  rw [List.take_succ_eq_append_getElem h, List.filter_append]
  congr 1
  cases hg : (getL lb (la[i]'h).1).isNone <;> simp [hg]

set_option maxHeartbeats 2000000 in
set_option maxRecDepth 100000 in
theorem filter_calls (B : Nat) (a a' : Option Addr) (cap cap' : Nat) (la lb : LL) (w : World) (hla : Labs w a la) (hc : w.cell? ⟨B, 0, none⟩ = some (.slice a' lb.length cap')) (hB : B < w.heap.size) (hl : Labs w a' lb) (hsa : la.length ≤ 10) (hs : lb.length ≤ 10) :
    Calls Tryz.prog 80 #[.slice a la.length cap, .func (.func 81) #[] #[.pointer (some ⟨B, 0, none⟩)]] w fun e w' => ∃ g c, e = .returned (.slice (some ⟨g, 0, none⟩) (filtL la lb).length c) ∧ RowLb w' w.heap.size (.slice (some ⟨g, 0, none⟩) (filtL la lb).length c) (filtL la lb) ∧ Below w.heap.size w w' := by
  have HLA := Aside0.mk hla
  have HLB := Aside0.mk hl
  have HC := Aside0.mk hc
  have HR0 := Aside0.mk (rowLb_empty w)
  have HK := Aside0.mk (below_alloc (Below.refl w.heap.size w) (Obj.cells #[] 70))
  obtain ⟨i0, hi, hz0, hz1, hz2⟩ := info_parts infoLb
  have HI := Aside0.mk (And.intro hi (And.intro hz0 (And.intro hz1 hz2)))
  clear hla hl hc hi hz0 hz1 hz2
  go_enter Tryz.func80, Tryz.ntmps80
  go_wp2_with fail
  go_loopg [5, 6] (la.length + 1) (fun g v5 v6 w' => ∃ i : Nat, v6 = .int .i64 (i : Int) ∧ i + g = la.length + 1 ∧ i ≤ la.length ∧ Aside0 (RowLb w' w.heap.size v5 (filtL (la.take i) lb)) ∧ Aside0 (v5 ≠ .slice none 0 0) ∧ Aside0 (Below w.heap.size w w'))
  case atStart => exact ⟨0, rfl, by omega, by omega, HR0, ⟨by simp⟩, HK⟩
  case round =>
    obtain ⟨i, rfl, hig, hile, HR, HV, HBW⟩ := hrel
    by_cases hlt : i < la.length
    · obtain ⟨g1, rfl⟩ : ∃ m, gk = m + 1 := ⟨gk - 1, by omega⟩
      rcases HLA.out.next HBW.out with h | ⟨b, off, ha, hblt, hcl⟩
      · rw [h] at hlt; simp at hlt
      subst ha
      have c0 := (hcl i hlt).1
      have c1 := (hcl i hlt).2
      obtain ⟨x, hx⟩ : ∃ x, (la[i]'hlt).1 = x := ⟨_, rfl⟩
      obtain ⟨v, hv⟩ : ∃ v, (la[i]'hlt).2 = v := ⟨_, rfl⟩
      rw [hx] at c0
      rw [hv] at c1
      have HXY := Aside0.mk (show la[i]'hlt = (x, v) by rw [← hx, ← hv])
      have HCL := Aside0.mk hcl
      have HN := Aside0.mk (isnot_calls B a' cap' lb x v wr ((HBW.out.cell (p := ⟨B, 0, none⟩) hB).trans HC.out) (by have := HBW.out.size; omega) (HLB.out.next HBW.out) (by omega))
      clear hx hv hcl
      obtain ⟨g, c, hv5, hbase, hgl⟩ := HR.out.form HV.out
      subst hv5
      have HGB := Aside0.mk (And.intro hbase hgl)
      clear hbase hgl
      have HFL := Aside0.mk (show (filtL (la.take i) lb).length ≤ i by unfold filtL; refine Nat.le_trans (List.length_filter_le _ _) ?_; rw [List.length_take]; omega)
      cases hf : (getL lb x).isNone with
      | true =>
        have HF := Aside0.mk hf
        clear hf
        go_wp2_with fail
        refine HN.out.mono ?_
        rintro e w1 ⟨rfl, hb1⟩
        rw [HF.out]
        have HB1 := Aside0.mk (below_step HBW.out hb1)
        have HR1 := Aside0.mk (show RowLb w1 w.heap.size (.slice (some ⟨g, 0, none⟩) (filtL (la.take i) lb).length c) (filtL (la.take i) lb) from HR.out.next hb1)
        have e0 := (hb1.cell (p := ⟨b, off + i * 2, none⟩) hblt).trans c0
        have e1 := (hb1.cell (p := ⟨b, off + i * 2 + 1, none⟩) hblt).trans c1
        clear hb1
        go_wp2_with (at_builtin; refine wpList_append_own _ rfl _ _ 22 rfl w.heap.size 70 i0 (.agg #[.string ⟨#[]⟩, .string ⟨#[]⟩]) 2 32 Tryz.underlying22 HI.out.1 HI.out.2.1 HI.out.2.2.1 HI.out.2.2.2 rfl (by decide) _ _ _ rfl (World.ownsRow.alloc HR1.out _) ⟨w1.heap.size, 0, none⟩ 1 1 [.string x, .string v] rfl rfl (cell_two_new _ _ _ _) (by simp [Value.oneCell']) (by have := HFL.out; unfold maxLen; omega) (by have := HFL.out; omega) (by have := HB1.out.size; simp; omega) ?_; intro v' w3 hown' hg3 hnil3; have HR3 := Aside0.mk hown'; have HG3 := Aside0.mk (And.intro hg3 hnil3); clear hown' hg3 hnil3)
        try go_frame
        go_roundg g1
        case measure => omega
        case rel => exact ⟨i + 1, by go_num, by omega, by omega, ⟨by rw [filtL_take hlt, HXY.out]; show RowLb w3 _ _ (_ ++ (if (getL lb x).isNone = true then [(x, v)] else [])); rw [HF.out, if_pos rfl]; have := HR3.out; unfold RowLb; rw [List.length_append, cellsL_append]; exact this⟩, ⟨fun hv' => by have := (HG3.out.2.1 hv').1; cases this⟩, ⟨(below_alloc HB1.out _).grown HG3.out.1 (by have := HB1.out.size; simp; omega) (fun j hj => (World.ownsRow.lt HR1.out j hj).1)⟩⟩
      | false =>
        have HF := Aside0.mk hf
        clear hf
        go_wp2_with fail
        refine HN.out.mono ?_
        rintro e w1 ⟨rfl, hb1⟩
        rw [HF.out]
        have HB1 := Aside0.mk (below_step HBW.out hb1)
        have HR1 := Aside0.mk (HR.out.next hb1)
        clear hb1
        go_wp2_with fail
        go_roundg g1
        case measure => omega
        case rel => exact ⟨i + 1, by go_num, by omega, by omega, ⟨by rw [filtL_take hlt, HXY.out]; show RowLb w1 _ _ (_ ++ (if (getL lb x).isNone = true then [(x, v)] else [])); rw [HF.out]; simpa using HR1.out⟩, ⟨by simp⟩, HB1⟩
    · have HE := Aside0.mk (show i = la.length by omega)
      clear hig hile
      obtain ⟨g, c, hv5, hbase, hgl⟩ := HR.out.form HV.out
      subst hv5
      go_wp2_with fail
      go_ret
      have hr := HR.out
      rw [HE.out, List.take_length] at hr
      exact ⟨g, c, by rw [HE.out, List.take_length]; rfl, hr, HBW.out⟩
end Go.Proofs.YtobbfenkdnaanaaGreatDoor
