/- Labels are valid: the reference's SetValid, LabelSet.Validate, by contract. -/
import Derived.Test.YtobbfenkdnaanaaGreatDoorAlA
set_option linter.unusedVariables false
set_option linter.unusedSimpArgs false
namespace Go.Proofs.YtobbfenkdnaanaaGreatDoor
open Go.RowKit Go.Maps Go.WideMaps Go.Sort

def val1 (p : ByteArray × ByteArray) : Bool := utfB p.1 && Lib.validD p.2.data.toList
def valB (l : LL) : Bool := l.all val1
theorem valB_false {l : LL} {p : ByteArray × ByteArray} (h : p ∈ l) (hp : val1 p = false) : valB l = false := by
  unfold valB
  rw [List.all_eq_false]
  exact ⟨p, h, by rw [hp]; simp⟩

set_option maxHeartbeats 1000000 in
set_option maxRecDepth 100000 in
theorem setValid_calls (a : Option Addr) (cap : Nat) (l : LL) (w : World) (hl : Labs w a l) (hs : Sized l) (hT : Tabs w) :
    Calls Tryz.prog 38 #[.slice a l.length cap] w fun e w' => e = .returned (.bool (valB l)) ∧ Below w.heap.size w w' := by
  have HL := Aside0.mk hl
  have HS := Aside0.mk hs
  have HT := Aside0.mk hT
  have hlen := hs.1
  clear hl hs hT
  obtain ⟨wo, hwo⟩ : ∃ wo : World, wo = w := ⟨_, rfl⟩
  subst hwo
  go_enter Tryz.func38, Tryz.ntmps38
  go_wp2_with fail
  go_loopg [3] (l.length + 1) (fun g v3 w' => ∃ i : Nat, v3 = .int .i64 (i : Int) ∧ i + g = l.length + 1 ∧ i ≤ l.length ∧ Aside0 (∀ j (h : j < l.length), j < i → val1 (l[j]'h) = true) ∧ Aside0 (Below wo.heap.size wo w'))
  case atStart => exact ⟨0, rfl, by omega, by omega, ⟨fun j h hj => by omega⟩, ⟨Below.refl _ _⟩⟩
  case round =>
    obtain ⟨i, rfl, hig, hile, HA, HB⟩ := hrel
    by_cases hlt : i < l.length
    · obtain ⟨g1, rfl⟩ : ∃ m, gk = m + 1 := ⟨gk - 1, by omega⟩
      rcases HL.out.next HB.out with h | ⟨b, off, ha, hblt, hc⟩
      · rw [h] at hlt; simp at hlt
      subst ha
      have c0 := (hc i hlt).1
      have c1 := (hc i hlt).2
      have hsz := HS.out.2 _ (List.getElem_mem hlt)
      obtain ⟨x, hx⟩ : ∃ x, (l[i]'hlt).1 = x := ⟨_, rfl⟩
      obtain ⟨y, hy⟩ : ∃ y, (l[i]'hlt).2 = y := ⟨_, rfl⟩
      rw [hx] at c0 hsz
      rw [hy] at c1 hsz
      have HXY := Aside0.mk (show l[i]'hlt = (x, y) by rw [← hx, ← hy])
      have HSZ := Aside0.mk hsz
      have HM := Aside0.mk (show (x, y) ∈ l by rw [← HXY.out]; exact List.getElem_mem hlt)
      clear hc hx hy hsz
      have hz := empty_of x
      by_cases h0 : x.size = 0
      · have k1 : x.toList.isEmpty = true := by rw [hz]; exact decide_eq_true h0
        have HF := Aside0.mk (valB_false HM.out (by simp [val1, utfB, h0]))
        clear hz h0 hblt
        go_wp2
        go_ret
        exact ⟨by rw [HF.out]; rfl, HB.out⟩
      · have k1 : x.toList.isEmpty = false := by rw [hz]; exact decide_eq_false h0
        have HU := Aside0.mk (show utfB x = Lib.validD x.data.toList by rw [utfB, decide_eq_false h0]; rfl)
        clear hz h0
        have HBL := Aside0.mk hblt
        clear hblt
        go_wp2_with fail
        refine (valid_calls x (by have := HSZ.out.1; omega) _ (HT.out.next HB.out)).mono ?_
        rintro e w1 ⟨rfl, hb1⟩
        have d1 := (hb1.cell (p := ⟨b, off + i * 2 + 1, none⟩) HBL.out).trans c1
        have HB1 := Aside0.mk (below_step HB.out hb1)
        clear hb1
        cases hvx : Lib.validD x.data.toList with
        | false =>
          have HF := Aside0.mk (valB_false HM.out (by simp only [val1, HU.out, hvx]; rfl))
          clear hvx
          go_wp2
          go_ret
          exact ⟨by rw [HF.out]; rfl, HB1.out⟩
        | true =>
          have HVX := Aside0.mk hvx
          clear hvx
          go_wp2_with fail
          refine (valid_calls y (by have := HSZ.out.2; omega) _ (HT.out.next HB1.out)).mono ?_
          rintro e w2 ⟨rfl, hb2⟩
          have HB2 := Aside0.mk (below_step HB1.out hb2)
          clear hb2
          cases hvy : Lib.validD y.data.toList with
          | false =>
            have HF := Aside0.mk (valB_false HM.out (by simp only [val1, hvy]; exact Bool.and_false _))
            clear hvy
            go_wp2
            go_ret
            exact ⟨by rw [HF.out]; rfl, HB2.out⟩
          | true =>
            have HVY := Aside0.mk hvy
            clear hvy
            go_wp2_with fail
            go_roundg g1
            case measure => omega
            case rel => exact ⟨i + 1, by go_num, by omega, by omega, ⟨fun j h hj => by
              rcases Nat.lt_or_ge j i with h' | h'
              · exact HA.out j h h'
              · obtain rfl : j = i := by omega
                rw [HXY.out, val1, HU.out, HVX.out, HVY.out]; rfl⟩, HB2⟩
    · have HI := Aside0.mk (show i = l.length by omega)
      clear hig hile
      go_wp2_with fail
      go_ret
      refine ⟨?_, HB.out⟩
      have : valB l = true := by
        unfold valB
        rw [List.all_eq_true]
        intro x hx
        obtain ⟨j, hj, rfl⟩ := List.getElem_of_mem hx
        exact HA.out j hj (by have := HI.out; omega)
      rw [this]; rfl

/-- An error of errors.New. -/
def IsNew (w : World) (v : Value) : Prop := ∃ b s, v = .iface 217 (.pointer (some ⟨b, 0, none⟩)) ∧ w.cell? ⟨b, 0, none⟩ = some (.string s) ∧ s.size ≤ 100 ∧ b < w.heap.size
theorem IsNew.next {w w' : World} {v : Value} (h : IsNew w v) (hb : Below w.heap.size w w') : IsNew w' v := by
  obtain ⟨b, s, hv, hc, hs, hlt⟩ := h
  exact ⟨b, s, hv, (hb.cell (p := ⟨b, 0, none⟩) hlt).trans hc, hs, Nat.lt_of_lt_of_le hlt hb.size⟩
set_option maxRecDepth 100000 in
theorem new2_calls (s : ByteArray) (hs : s.size ≤ 100) (w : World) : Calls Tryz.prog 118 #[.string s] w fun e w' => ∃ v, e = .returned v ∧ IsNew w' v ∧ Below w.heap.size w w' := by
  have HS := Aside0.mk hs
  clear hs
  go_enter Tryz.func118, Tryz.ntmps118
  go_wp2
  go_ret
  exact ⟨_, rfl, ⟨_, s, rfl, by simp [go_sem], HS.out, by simp⟩, (Below.refl _ _).alloc (Nat.le_refl _) _⟩

/-- What Validate of a set says. -/
def LVQ (l : LL) (w : World) (v : Value) : Prop := (valB l = true ∧ v = .nilIface) ∨ (valB l = false ∧ IsNew w v)

set_option maxHeartbeats 1000000 in
set_option maxRecDepth 100000 in
theorem lvalid_calls (ba na : Nat) (la : LL) (w : World) (ha : MapIs w ba na la) (hsa : Sized la) (hT : Tabs w) :
    Calls Tryz.prog 98 #[.map (some ba)] w fun e w' => (∃ v, e = .returned v ∧ LVQ la w' v) ∧ Below w.heap.size w w' := by
  have HA := Aside0.mk ha
  have HSA := Aside0.mk hsa
  have HT := Aside0.mk hT
  clear ha hsa hT
  go_enter Tryz.func98, Tryz.ntmps98
  go_wp2_with (at_range; refine wpList_range_label _ rfl _ 75 rfl Tryz.underlying75 ba na la rfl HA.out ?_; intro w0 hrg0 hg0 hs0; have HRG := Aside0.mk hrg0; have HG0 := Aside0.mk (And.intro hg0 hs0); clear hrg0 hg0 hs0)
  go_frame
  have HB0 := Aside0.mk ((Below.refl w.heap.size w).grown HG0.out.1 (Nat.le_refl _) (fun k hk => by cases hk))
  go_loopg [3, 4] la.length (fun g v3 v4 w' => ∃ d : LL, Aside0 (RangeIs w' ba w.heap.size na la d g) ∧ Aside0 (∀ p ∈ d, val1 p = true) ∧ Aside0 (Below w.heap.size w w'))
  case atStart => exact ⟨[], HRG, ⟨fun p hp => by cases hp⟩, HB0⟩
  case round =>
    obtain ⟨d, HR, HD, HBW⟩ := hrel
    go_wp2_with (at_next; refine wpList_next_label _ rfl _ rfl ba w.heap.size na la d gk rfl HR.out ?_ ?_)
    · intro hperm
      have HF := Aside0.mk (show valB la = true by
        unfold valB
        rw [List.all_eq_true]
        exact fun p hp => HD.out p (hperm.mem_iff.2 hp))
      clear hperm
      go_wp2
      go_ret
      exact ⟨⟨_, rfl, .inl ⟨HF.out, rfl⟩⟩, HBW.out⟩
    · intro x v w1 cnt1 hlx hdx hxl hrg1 hlt hg1 hs1 hen
      have HBX := Aside0.mk (HBW.out.grown hg1 (by have := HBW.out.size; omega) (fun k hk => by cases hk; exact Nat.le_refl _))
      have HX := Aside0.mk (And.intro hlx (And.intro hdx hxl))
      have HSX := Aside0.mk (HSA.out.2 _ (getL_some hlx))
      have HRG1 := Aside0.mk hrg1
      clear hlx hdx hxl hrg1 hg1 hs1
      go_wp2_with fail
      refine (labelUtf_calls x (by have := HSX.out.1; omega) _ (HT.out.next HBX.out)).mono ?_
      rintro e w2 ⟨rfl, hb2⟩
      have HB2 := Aside0.mk (below_step HBX.out hb2)
      have HR2 := Aside0.mk hb2
      clear hb2
      cases hvx : utfB x with
      | false =>
        have HF := Aside0.mk (valB_false (getL_some HX.out.1) (by simp only [val1, hvx]; rfl))
        clear hvx
        go_wp2_with fail
        refine (new2_calls _ (by decide) _).mono ?_
        rintro e w3 ⟨v3, rfl, hn3, hb3⟩
        have HB3 := Aside0.mk (below_step HB2.out hb3)
        have HN3 := Aside0.mk hn3
        clear hb3 hn3
        go_wp2
        go_ret
        exact ⟨⟨_, rfl, .inr ⟨HF.out, HN3.out⟩⟩, HB3.out⟩
      | true =>
        have HVX := Aside0.mk hvx
        clear hvx
        go_wp2_with fail
        refine (valueUtf_calls v (by have := HSX.out.2; omega) _ (HT.out.next HB2.out)).mono ?_
        rintro e w3 ⟨rfl, hb3⟩
        have HB3 := Aside0.mk (below_step HB2.out hb3)
        have HR3 := Aside0.mk hb3
        clear hb3
        cases hvy : Lib.validD v.data.toList with
        | false =>
          have HF := Aside0.mk (valB_false (getL_some HX.out.1) (by simp only [val1, hvy]; exact Bool.and_false _))
          clear hvy
          go_wp2_with fail
          refine (new2_calls _ (by decide) _).mono ?_
          rintro e w4 ⟨v4, rfl, hn4, hb4⟩
          have HB4 := Aside0.mk (below_step HB3.out hb4)
          have HN4 := Aside0.mk hn4
          clear hb4 hn4
          go_wp2
          go_ret
          exact ⟨⟨_, rfl, .inr ⟨HF.out, HN4.out⟩⟩, HB4.out⟩
        | true =>
          have HVY := Aside0.mk hvy
          clear hvy
          go_wp2_with fail
          go_roundg cnt1
          case measure => exact hlt
          case rel => exact ⟨d ++ [(x, v)], ⟨(HRG1.out.next HR2.out).next HR3.out⟩, ⟨fun p hp => by
              rcases List.mem_append.1 hp with hp | hp
              · exact HD.out p hp
              · simp only [List.mem_singleton] at hp
                subst hp
                rw [val1, HVX.out, HVY.out]; rfl⟩, HB3⟩
end Go.Proofs.YtobbfenkdnaanaaGreatDoor
