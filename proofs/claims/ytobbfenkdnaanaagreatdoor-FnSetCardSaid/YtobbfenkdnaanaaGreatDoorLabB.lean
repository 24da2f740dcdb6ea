/- Few labels, in order: by contract. -/
import Derived.Test.YtobbfenkdnaanaaGreatDoorLabA
import Derived.Deep.QuietTactic
set_option linter.unusedVariables false
set_option linter.unusedSimpArgs false
namespace Go.Proofs.YtobbfenkdnaanaaGreatDoor
open Go.RowKit
theorem empty_of (s : ByteArray) : s.toList.isEmpty = decide (s.size = 0) := by
  have h := len_toList s
  rw [ByteArray.toList_eq]
  cases hl : s.data.toList with
  | nil => rw [hl] at h; rw [decide_eq_true (show s.size = 0 from h.symm)]; rfl
  | cons a l => rw [hl] at h; simp only [List.length_cons] at h; rw [decide_eq_false (by omega)]; rfl
def few1B (p : ByteArray × ByteArray) : Bool := !decide (p.1.size = 0) && decide (p.1.size ≤ 300) && decide (p.2.size ≤ 300)
def fewB (l : LL) : Bool := l.all few1B && decide (l.length ≤ 10)
set_option maxRecDepth 100000 in
theorem few_calls (a : Option Addr) (cap : Nat) (l : LL) (w : World) (hl : Labs w a l) (hlen : l.length ≤ 2147483647) :
    Calls Tryz.prog 44 #[.slice a l.length cap] w fun e w' => e = .returned (.bool (fewB l)) ∧ Below w.heap.size w w' := by
  have HL := Aside0.mk hl
  clear hl
  obtain ⟨wo, hwo⟩ : ∃ wo : World, wo = w := ⟨_, rfl⟩
  subst hwo
  go_enter Tryz.func44, Tryz.ntmps44
  go_wp2_with fail
  go_loopg [3] (l.length + 1) (fun g v3 w' => ∃ i : Nat, v3 = .int .i64 (i : Int) ∧ i + g = l.length + 1 ∧ i ≤ l.length ∧ Aside0 (∀ j (h : j < l.length), j < i → few1B (l[j]'h) = true) ∧ Aside0 (Below wo.heap.size wo w'))
  case atStart => exact ⟨0, rfl, by omega, by omega, ⟨fun j h hj => by omega⟩, ⟨Below.refl _ _⟩⟩
  case round =>
    obtain ⟨i, rfl, hig, hile, HA, HB⟩ := hrel
    by_cases hlt : i < l.length
    · obtain ⟨g1, rfl⟩ : ∃ m, gk = m + 1 := ⟨gk - 1, by omega⟩
      rcases HL.out.next HB.out with h | ⟨b, off, ha, hblt, hc⟩
      · rw [h] at hlt; simp at hlt
      subst ha
      have c0 := (hc i hlt).1
      have c1 := (hc i hlt).2
      obtain ⟨x, hx⟩ : ∃ x, (l[i]'hlt).1 = x := ⟨_, rfl⟩
      obtain ⟨y, hy⟩ : ∃ y, (l[i]'hlt).2 = y := ⟨_, rfl⟩
      rw [hx] at c0
      rw [hy] at c1
      have HXY := Aside0.mk (show l[i]'hlt = (x, y) by rw [← hx, ← hy])
      clear hc hx hy hblt
      have hz := empty_of x
      cases hf : few1B (x, y) with
      | true =>
        have hf' : ¬ x.size = 0 ∧ x.size ≤ 300 ∧ y.size ≤ 300 := by simpa [few1B, and_assoc] using hf
        have k1 : x.toList.isEmpty = false := by rw [hz]; exact decide_eq_false hf'.1
        have k2 : decide (300 < (x.size : Int)) = false := decide_eq_false (by omega)
        have k3 : decide (300 < (y.size : Int)) = false := decide_eq_false (by omega)
        have HF := Aside0.mk hf
        clear hf hz hf'
        go_wp2_with fail
        go_roundg g1
        case measure => omega
        case rel => exact ⟨i + 1, by go_num, by omega, by omega, ⟨fun j h hj => by
            rcases Nat.lt_or_ge j i with h' | h'
            · exact HA.out j h h'
            · obtain rfl : j = i := by omega
              rw [HXY.out]; exact HF.out⟩, HB⟩
      | false =>
        have HF := Aside0.mk (show fewB l = false by
          unfold fewB
          rw [Bool.and_eq_false_iff]
          left
          rw [List.all_eq_false]
          exact ⟨l[i]'hlt, List.getElem_mem hlt, by rw [HXY.out, hf]; simp⟩)
        by_cases h0 : x.size = 0
        · have k1 : x.toList.isEmpty = true := by rw [hz]; exact decide_eq_true h0
          clear hf hz h0
          go_wp2
          go_ret
          exact ⟨by rw [HF.out]; rfl, HB.out⟩
        · have k1 : x.toList.isEmpty = false := by rw [hz]; exact decide_eq_false h0
          by_cases h3 : x.size ≤ 300
          · have k2 : decide (300 < (x.size : Int)) = false := decide_eq_false (by omega)
            have h4 : ¬ y.size ≤ 300 := fun h4 => by simp [few1B, h0, h3, h4] at hf
            have k3 : decide (300 < (y.size : Int)) = true := decide_eq_true (by omega)
            clear hf hz h0 h3 h4
            go_wp2
            go_ret
            exact ⟨by rw [HF.out]; rfl, HB.out⟩
          · have k2 : decide (300 < (x.size : Int)) = true := decide_eq_true (by omega)
            clear hf hz h0 h3
            go_wp2
            go_ret
            exact ⟨by rw [HF.out]; rfl, HB.out⟩
    · have HI := Aside0.mk (show i = l.length by omega)
      have HALL := Aside0.mk (show l.all few1B = true by
        rw [List.all_eq_true]
        intro x hx
        obtain ⟨j, hj, rfl⟩ := List.getElem_of_mem hx
        exact HA.out j hj (by have := HI.out; omega))
      clear hig hile
      by_cases h10 : l.length ≤ 10
      · have k1 : decide ((l.length : Int) ≤ 10) = true := decide_eq_true (by omega)
        have HF := Aside0.mk (show fewB l = true by unfold fewB; rw [HALL.out, decide_eq_true h10]; rfl)
        clear h10
        go_wp2
        go_ret
        exact ⟨by rw [HF.out]; rfl, HB.out⟩
      · have k1 : decide ((l.length : Int) ≤ 10) = false := decide_eq_false (by omega)
        have HF := Aside0.mk (show fewB l = false by unfold fewB; rw [decide_eq_false h10, Bool.and_false])
        clear h10
        go_wp2
        go_ret
        exact ⟨by rw [HF.out]; rfl, HB.out⟩
/-- Labels in order, each name once. -/
def InOrd (l : LL) : Prop := ∀ i (h : i + 1 < l.length), Op.bytesLess (l[i]'(by omega)).1.toList (l[i + 1]'h).1.toList = true
open Classical in
noncomputable def inOrdB (l : LL) : Bool := decide (InOrd l)
theorem inOrdB_true {l : LL} (h : InOrd l) : inOrdB l = true := by classical (unfold inOrdB; exact decide_eq_true h)
theorem inOrdB_false {l : LL} (i : Nat) (h : i + 1 < l.length) (hb : Op.bytesLess (l[i]'(by omega)).1.toList (l[i + 1]'h).1.toList = false) : inOrdB l = false := by
  classical
  unfold inOrdB
  exact decide_eq_false fun hi => by have := hi i h; rw [hb] at this; cases this
theorem inOrdB_of {l : LL} (h : inOrdB l = true) : InOrd l := by classical (unfold inOrdB at h; exact of_decide_eq_true h)

set_option maxRecDepth 100000 in
theorem inOrder_calls (a : Option Addr) (cap : Nat) (l : LL) (w : World) (hl : Labs w a l) (hlen : l.length ≤ 2147483647) :
    Calls Tryz.prog 45 #[.slice a l.length cap] w fun e w' => e = .returned (.bool (inOrdB l)) ∧ Below w.heap.size w w' := by
  have HL := Aside0.mk hl
  clear hl
  obtain ⟨wo, hwo⟩ : ∃ wo : World, wo = w := ⟨_, rfl⟩
  subst hwo
  go_enter Tryz.func45, Tryz.ntmps45
  go_wp2_with fail
  go_loopg [3] (l.length + 2) (fun g v3 w' => ∃ i : Nat, v3 = .int .i64 (i : Int) ∧ i + g = l.length + 3 ∧ i ≤ l.length + 1 ∧ 0 < i ∧ Aside0 (∀ j (h : j + 1 < l.length), j + 1 < i → Op.bytesLess (l[j]'(by omega)).1.toList (l[j + 1]'h).1.toList = true) ∧ Aside0 (Below wo.heap.size wo w'))
  case atStart => exact ⟨1, rfl, by omega, by omega, by omega, ⟨fun j h hj => by omega⟩, ⟨Below.refl _ _⟩⟩
  case round =>
    obtain ⟨i, rfl, hig, hile, hi0, HA, HB⟩ := hrel
    obtain ⟨i, rfl⟩ : ∃ q, i = q + 1 := ⟨i - 1, by omega⟩
    by_cases hlt : i + 1 < l.length
    · obtain ⟨g1, rfl⟩ : ∃ m, gk = m + 1 := ⟨gk - 1, by omega⟩
      rcases HL.out.next HB.out with h | ⟨b, off, ha, hblt, hc⟩
      · rw [h] at hlt; simp at hlt
      subst ha
      have c0 := (hc i (by omega)).1
      have c1 := (hc (i + 1) hlt).1
      have hlt3 : i < l.length := by omega
      obtain ⟨x, hx⟩ : ∃ x, (l[i]'hlt3).1 = x := ⟨_, rfl⟩
      obtain ⟨y, hy⟩ : ∃ y, (l[i + 1]'hlt).1 = y := ⟨_, rfl⟩
      rw [hx] at c0
      rw [hy] at c1
      clear hc hblt
      obtain ⟨z, hz⟩ : ∃ z, Op.bytesLess x.toList y.toList = z := ⟨_, rfl⟩
      have HXY := Aside0.mk (And.intro hx hy)
      clear hx hy
      cases z with
      | true =>
        have HZ := Aside0.mk hz
        have hlt2 : (i : Int) + 1 < (l.length : Int) := by omega
        go_wp2_with fail
        go_quiet (fail)
        go_wp2_with fail
        go_roundg g1
        case measure => omega
        case rel => exact ⟨i + 1 + 1, by go_num, by omega, by omega, by omega, ⟨fun j h hj => by
          rcases Nat.lt_or_ge j i with h' | h'
          · exact HA.out j h (by omega)
          · obtain rfl : j = i := by omega
            rw [HXY.out.1, HXY.out.2]; exact HZ.out⟩, ⟨below_drewN HB.out _⟩⟩
      | false =>
        have HF := Aside0.mk (inOrdB_false i hlt (by rw [HXY.out.1, HXY.out.2]; exact hz))
        have hlt2 : (i : Int) + 1 < (l.length : Int) := by omega
        go_wp2_with fail
        go_quiet (fail)
        go_wp2_with fail
        go_ret
        exact ⟨by rw [HF.out]; rfl, below_drewN HB.out _⟩
    · have HF := Aside0.mk (inOrdB_true (l := l) (fun j h => HA.out j h (by omega)))
      go_wp2_with fail
      go_ret
      exact ⟨by rw [HF.out]; rfl, HB.out⟩

noncomputable def ordB (l : LL) : Bool := fewB l && inOrdB l
set_option maxRecDepth 100000 in
theorem ordered_calls (a : Option Addr) (cap : Nat) (l : LL) (w : World) (hl : Labs w a l) (hlen : l.length ≤ 2147483647) :
    Calls Tryz.prog 11 #[.slice a l.length cap] w fun e w' => e = .returned (.bool (ordB l)) ∧ Below w.heap.size w w' := by
  have HL := Aside0.mk hl
  clear hl
  cases hf : fewB l with
  | false =>
    have HF := Aside0.mk hf
    have HO := Aside0.mk (show ordB l = false by unfold ordB; rw [hf]; rfl)
    clear hf
    go_enter Tryz.func11, Tryz.ntmps11
    go_wp2_with fail
    refine (few_calls a cap l _ HL.out hlen).mono ?_
    rintro e w1 ⟨rfl, hb1⟩
    rw [HF.out]
    have HB1 := Aside0.mk hb1; clear hb1
    go_wp2
    go_ret
    exact ⟨by rw [HO.out]; rfl, HB1.out⟩
  | true =>
    have HF := Aside0.mk hf
    have HO := Aside0.mk (show ordB l = inOrdB l by unfold ordB; rw [hf]; rfl)
    clear hf
    go_enter Tryz.func11, Tryz.ntmps11
    go_wp2_with fail
    refine (few_calls a cap l _ HL.out hlen).mono ?_
    rintro e w1 ⟨rfl, hb1⟩
    rw [HF.out]
    have HB1 := Aside0.mk hb1; clear hb1
    go_wp2_with fail
    refine (inOrder_calls a cap l _ (HL.out.next HB1.out) hlen).mono ?_
    rintro e w2 ⟨rfl, hb2⟩
    have HB2 := Aside0.mk (below_step HB1.out hb2); clear hb2
    go_wp2
    go_ret
    exact ⟨by rw [HO.out]; rfl, HB2.out⟩
end Go.Proofs.YtobbfenkdnaanaaGreatDoor
