/- The reference's Merge, by contract. -/
import Derived.Test.YtobbfenkdnaanaaGreatDoorSrtL
import Derived.Laws.AppendOwnNone
set_option linter.unusedVariables false
set_option linter.unusedSimpArgs false
namespace Go.Proofs.YtobbfenkdnaanaaGreatDoor
open Go.RowKit Go.Maps Go.WideMaps Go.Sort Go.Lib

theorem RowLb.mono {w : World} {base base' : Nat} {v : Value} {l : LL} (h : RowLb w base v l) (hb : base' ≤ base) : RowLb w base' v l := by
  obtain ⟨h1, h2⟩ := h
  refine ⟨h1, h2.imp id ?_⟩
  rintro ⟨g, cap, cur, hv, hbase, hg⟩
  exact ⟨g, cap, cur, hv, Nat.le_trans hb hbase, hg⟩

set_option maxHeartbeats 2000000 in
set_option maxRecDepth 100000 in
theorem smerge_calls (a a' : Option Addr) (cap cap' : Nat) (la lb : LL) (w : World) (hla : Labs w a la) (hlb : Labs w a' lb) (hn : a' = none → cap' = 0) (hsa : la.length ≤ 10) (hsb : lb.length ≤ 10) :
    Calls Tryz.prog 27 #[.slice a la.length cap, .slice a' lb.length cap'] w fun e w' => ∃ g c, e = .returned (.slice (some ⟨g, 0, none⟩) (mrgS la lb).length c) ∧ Labs w' (some ⟨g, 0, none⟩) (mrgS la lb) ∧ Below w.heap.size w w' := by
  have HK := Aside0.mk (below_alloc (Below.refl w.heap.size w) (Obj.cells #[Value.slice a' lb.length cap'] 22))
  have HL := Aside0.mk (And.intro (hla.next HK.out) (hlb.next HK.out))
  have HSZ := Aside0.mk (show (filtL la lb).length ≤ 10 from Nat.le_trans (List.length_filter_le _ _) hsa)
  have HM := Aside0.mk (show (mrgL la lb).length = (filtL la lb).length + lb.length by unfold mrgL; rw [List.length_append])
  obtain ⟨i0, hi, hz0, hz1, hz2⟩ := info_parts infoLb
  have HI := Aside0.mk (And.intro hi (And.intro hz0 (And.intro hz1 hz2)))
  have HNIL := Aside0.mk hn
  have HLB := Aside0.mk hlb
  clear hla hlb hi hz0 hz1 hz2 hn
  go_enter Tryz.func27, Tryz.ntmps27
  go_wp2_with fail
  refine (filter_calls w.heap.size a a' cap cap' la lb _ HL.out.1 (by simp [go_sem]) (by simp) HL.out.2 hsa hsb).mono ?_
  rintro e w1 ⟨g, c, rfl, hrow, hb1⟩
  have HB1 := Aside0.mk (below_step HK.out hb1)
  have hrow' : RowLb w1 w.heap.size (.slice (some ⟨g, 0, none⟩) (filtL la lb).length c) (filtL la lb) := hrow.mono (by simp)
  have HO1 := Aside0.mk hrow'
  have HF := Aside0.mk (And.intro hrow'.labs.1 (World.ownsRow.lt hrow' g rfl))
  have HL1 := Aside0.mk (HLB.out.next HB1.out)
  have cb := (hb1.cell (p := ⟨w.heap.size, 0, none⟩) (by simp)).trans (show (w.alloc (Obj.cells #[Value.slice a' lb.length cap'] 22)).cell? ⟨w.heap.size, 0, none⟩ = some (.slice a' lb.length cap') by simp [go_sem])
  clear hrow hrow' hb1
  cases a' with
  | none =>
    have hc0 := HNIL.out rfl
    subst hc0
    obtain rfl : lb = [] := by
      rcases HL1.out with h | ⟨b, off, ha, _⟩
      · exact h
      · cases ha
    have HMN := Aside0.mk (show mrgL la [] = filtL la [] by unfold mrgL; rw [List.append_nil])
    go_wp2_with (at_builtin; refine wpList_append_own_none rfl _ _ 22 rfl w.heap.size 70 i0 2 Tryz.underlying22 HI.out.1 _ _ _ rfl HO1.out rfl ?_)
    refine (sorted_calls g c (filtL la []) _ HF.out.1 HF.out.2.2 (by have := HSZ.out; omega)).mono ?_
    rintro e w2 ⟨g2, c2, rfl, hl2, hb2⟩
    have HB2 := Aside0.mk (below_step HB1.out hb2)
    have HR := Aside0.mk (show srtL (filtL la []) = mrgS la [] by rw [← HMN.out]; rfl)
    have HL2 := Aside0.mk hl2
    clear hl2 hb2
    go_wp2
    go_ret
    exact ⟨g2, c2, by rw [HR.out]; rfl, by rw [← HR.out]; exact HL2.out, HB2.out⟩
  | some p =>
    have HNA := Aside0.mk (show ∀ (j : Nat) (u : Value), (cellsL lb)[j]? = some u → w1.cell? (p.add j) = some u from fun j u hu => by
      rcases HL1.out with rfl | ⟨b, off, ha, hblt, hc⟩
      · simp [cellsL] at hu
      · cases ha
        exact labs_cells hc j u hu)
    go_wp2_with (at_builtin; refine wpList_append_own _ rfl _ _ 22 rfl w.heap.size 70 i0 (.agg #[.string ⟨#[]⟩, .string ⟨#[]⟩]) 2 32 Tryz.underlying22 HI.out.1 HI.out.2.1 HI.out.2.2.1 HI.out.2.2.2 rfl (by decide) _ _ _ rfl HO1.out p lb.length cap' (cellsL lb) rfl (cellsL_length lb) HNA.out (cellsL_one lb) (by have := HSZ.out; unfold maxLen; omega) (by have := HSZ.out; omega) HB1.out.size ?_; intro v2 w2 ho2 hg2 hn2; have HX := Aside0.mk (And.intro ho2 (And.intro hg2 hn2)); clear ho2 hg2 hn2)
    have hrow : RowLb w2 w.heap.size v2 (mrgL la lb) := by
      have := HX.out.1
      unfold RowLb mrgL
      rw [List.length_append, cellsL_append]
      exact this
    have hv2 : v2 ≠ .slice none 0 0 := fun e => by have := (HX.out.2.2.1 e).1; cases this
    obtain ⟨g2, c2, hv, hgb, hgl⟩ := hrow.form hv2
    subst hv
    have HB2 := Aside0.mk (HB1.out.grown HX.out.2.1 HB1.out.size (fun k hk => (World.ownsRow.lt HO1.out k hk).1))
    have HL2 := Aside0.mk (And.intro hrow.labs.1 hgl)
    clear hrow hv2 hgb hgl
    go_wp2_with fail
    refine (sorted_calls g2 c2 (mrgL la lb) _ HL2.out.1 HL2.out.2 (by have := HSZ.out; have := HM.out; omega)).mono ?_
    rintro e w3 ⟨g3, c3, rfl, hl3, hb3⟩
    have HB3 := Aside0.mk (below_step HB2.out hb3)
    have HL3 := Aside0.mk (show Labs w3 (some ⟨g3, 0, none⟩) (mrgS la lb) from hl3)
    have hR : srtL (mrgL la lb) = mrgS la lb := rfl
    rw [hR]
    clear hl3 hb3 hR
    go_wp2
    go_ret
    exact ⟨g3, c3, rfl, HL3.out, HB3.out⟩
end Go.Proofs.YtobbfenkdnaanaaGreatDoor
