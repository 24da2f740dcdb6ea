/- Names by the older rules: the reference's Legacy at a label's name, by contract. laws.setFits, by contract. -/
import Derived.Test.YtobbfenkdnaanaaGreatDoorKt
import Derived.Laws.RangeString
import Derived.Laws.RangeAny
import Derived.Lib.OthersKept
import Derived.Deep.LoopGhost
import Derived.BigQuiet
import Derived.Test.YtobbfenkdnaanaaGreatDoorLabB
set_option linter.unusedVariables false
set_option linter.unusedSimpArgs false
namespace Go.Proofs.YtobbfenkdnaanaaGreatDoor
open Go.RowKit

/-- A letter that may stand at a place of a name by the older rules. -/
def LegOk (c : Int) (pos : Nat) (m : Bool) : Prop := (97 ≤ c ∧ c ≤ 122) ∨ (65 ≤ c ∧ c ≤ 90) ∨ c = 95 ∨ (c = 58 ∧ m = true) ∨ (48 ≤ c ∧ c ≤ 57 ∧ 0 < pos)
def Legal (s : ByteArray) (m : Bool) : Prop := 0 < s.size ∧ ∀ i : Nat, i < s.size → LegOk (bt s (i : Int)) i m
open Classical in
/-- A name by the older rules. -/
noncomputable def legB (s : ByteArray) (m : Bool) : Bool := decide (Legal s m)
theorem legB_true {s : ByteArray} {m : Bool} (h : Legal s m) : legB s m = true := by classical (unfold legB; exact decide_eq_true h)
theorem legB_false {s : ByteArray} {m : Bool} (h : ¬ Legal s m) : legB s m = false := by classical (unfold legB; exact decide_eq_false h)
theorem legB_bad {s : ByteArray} {m : Bool} (i : Nat) (hi : i < s.size) (h : ¬ LegOk (bt s (i : Int)) i m) : legB s m = false := legB_false fun hl => h (hl.2 i hi)
theorem legB_empty {s : ByteArray} {m : Bool} (h : s.size = 0) : legB s m = false := legB_false fun hl => by have := hl.1; omega
theorem bt_high (s : ByteArray) (i : Nat) (hi : i < s.size) : ((s[i]'hi).toNat : Int) = bt s (i : Int) := by simpa using bt_at s (i : Int) (by simpa using hi)

/-- A step: one letter more is right. -/
theorem leg_step {s : ByteArray} {m : Bool} {i : Nat} (h : ∀ j : Nat, j < i → LegOk (bt s (j : Int)) j m) (hi : LegOk (bt s (i : Int)) i m) : ∀ j : Nat, j < i + 1 → LegOk (bt s (j : Int)) j m := fun j hj => by
  rcases Nat.lt_or_ge j i with h' | h'
  · exact h j h'
  · obtain rfl : j = i := by omega
    exact hi
theorem emptyN_of (s : ByteArray) : s.toList.isEmpty = decide (s.size = 0) := by
  have h : s.data.toList.length = s.size := Array.length_toList
  rw [ByteArray.toList_eq]
  cases hl : s.data.toList with
  | nil => rw [hl] at h; rw [decide_eq_true (show s.size = 0 from h.symm)]; rfl
  | cons a l => rw [hl] at h; simp only [List.length_cons] at h; rw [decide_eq_false (by omega)]; rfl

set_option maxHeartbeats 1600000 in
set_option maxRecDepth 100000 in
theorem legacy_false (s : ByteArray) (hs : s.size ≤ 2147483647) (w : World) :
    Calls Tryz.prog 91 #[.string s, .bool false] w fun e w' => e = .returned (.bool (legB s false)) ∧ Below w.heap.size w w' := by
  go_enter Tryz.func91, Tryz.ntmps91
  go_wp2_with fail
  obtain ⟨wo, hwo⟩ : ∃ wo : World, wo = w := ⟨_, rfl⟩
  subst hwo
  go_loopg [5] (s.size + 1) (fun kq v3 w' => ∃ i : Nat, v3 = .int .i64 (i : Int) ∧ i + kq = s.size + 1 ∧ i ≤ s.size ∧ Aside0 (∀ j : Nat, j < i → LegOk (bt s (j : Int)) j false) ∧ wo = w')
  case atStart => exact ⟨0, rfl, by omega, by omega, ⟨fun j hj => by omega⟩, rfl⟩
  case round =>
    obtain ⟨i, rfl, hik, hile, HA, rfl⟩ := hrel
    obtain ⟨g1, rfl⟩ : ∃ m, gk = m + 1 := ⟨gk - 1, by omega⟩
    have hxi : ∀ h : i < s.size, ((s[i]'h).toNat : Int) = bt s (i : Int) := fun h => by simpa using bt_at s (i : Int) (by simpa using h)
    have hri := bt_range s (i : Int)
    by_cases hlt : i < s.size
    · rcases (show bt s (i : Int) < 48 ∨ (48 ≤ bt s (i : Int) ∧ bt s (i : Int) ≤ 57) ∨ bt s (i : Int) = 58 ∨ (59 ≤ bt s (i : Int) ∧ bt s (i : Int) ≤ 64) ∨ (65 ≤ bt s (i : Int) ∧ bt s (i : Int) ≤ 90) ∨ (91 ≤ bt s (i : Int) ∧ bt s (i : Int) ≤ 94) ∨ bt s (i : Int) = 95 ∨ bt s (i : Int) = 96 ∨ (97 ≤ bt s (i : Int) ∧ bt s (i : Int) ≤ 122) ∨ 122 < bt s (i : Int) by omega) with h | ⟨h, h'⟩ | h | ⟨h, h'⟩ | ⟨h, h'⟩ | ⟨h, h'⟩ | h | h | ⟨h, h'⟩ | h
      · have c1 : (bt s (i : Int) != 95) = true := by simp; try omega
        have c2 : (bt s (i : Int) != 58) = true := by simp; try omega
        go_wp2
        go_ret
        exact ⟨by rw [legB_bad i hlt (by unfold LegOk; omega)]; rfl, Below.refl _ _⟩
      · have c1 : (bt s (i : Int) != 95) = true := by simp; try omega
        have c2 : (bt s (i : Int) != 58) = true := by simp; try omega
        by_cases hi0 : i = 0
        · subst hi0
          have hx0 : ∀ h : 0 < s.size, ((s[0]'h).toNat : Int) = bt s 0 := fun h => hxi h
          have g1 : 48 ≤ bt s 0 := h
          have g2 : bt s 0 ≤ 57 := h'
          have k1 : (bt s 0 != 95) = true := c1
          have k2 : (bt s 0 != 58) = true := c2
          have hr0 := Aside0.mk (⟨h, h'⟩ : _ ∧ _)
          clear hxi c1 c2 h h' hri
          go_wp2
          go_ret
          exact ⟨by rw [legB_bad 0 hlt (by have := hr0.out; unfold LegOk; omega)]; rfl, Below.refl _ _⟩
        · have c3 : ((i : Int) == 0) = false := by simp; omega
          have c4 : (0 : Int) < (i : Int) := by omega
          go_wp2
          go_roundg g1
          case measure => omega
          case rel => exact ⟨i + 1, by go_num, by omega, by omega, ⟨leg_step HA.out (by unfold LegOk; omega)⟩, rfl⟩
      · have c1 : (bt s (i : Int) != 95) = true := by simp; try omega
        have c2 : (bt s (i : Int) != 58) = false := by simp; try omega
        go_wp2
        go_ret
        exact ⟨by rw [legB_bad i hlt (by unfold LegOk; rintro (h1 | h1 | h1 | ⟨_, h1⟩ | h1) <;> first | omega | cases h1)]; rfl, Below.refl _ _⟩
      · have c1 : (bt s (i : Int) != 95) = true := by simp; try omega
        have c2 : (bt s (i : Int) != 58) = true := by simp; try omega
        go_wp2
        go_ret
        exact ⟨by rw [legB_bad i hlt (by unfold LegOk; omega)]; rfl, Below.refl _ _⟩
      · have c1 : (bt s (i : Int) != 95) = true := by simp; try omega
        have c2 : (bt s (i : Int) != 58) = true := by simp; try omega
        go_wp2
        go_roundg g1
        case measure => omega
        case rel => exact ⟨i + 1, by go_num, by omega, by omega, ⟨leg_step HA.out (by unfold LegOk; omega)⟩, rfl⟩
      · have c1 : (bt s (i : Int) != 95) = true := by simp; try omega
        have c2 : (bt s (i : Int) != 58) = true := by simp; try omega
        go_wp2
        go_ret
        exact ⟨by rw [legB_bad i hlt (by unfold LegOk; omega)]; rfl, Below.refl _ _⟩
      · have c1 : (bt s (i : Int) != 95) = false := by simp; try omega
        have c2 : (bt s (i : Int) != 58) = true := by simp; try omega
        go_wp2
        go_roundg g1
        case measure => omega
        case rel => exact ⟨i + 1, by go_num, by omega, by omega, ⟨leg_step HA.out (by unfold LegOk; omega)⟩, rfl⟩
      · have c1 : (bt s (i : Int) != 95) = true := by simp; try omega
        have c2 : (bt s (i : Int) != 58) = true := by simp; try omega
        go_wp2
        go_ret
        exact ⟨by rw [legB_bad i hlt (by unfold LegOk; omega)]; rfl, Below.refl _ _⟩
      · have c1 : (bt s (i : Int) != 95) = true := by simp; try omega
        have c2 : (bt s (i : Int) != 58) = true := by simp; try omega
        go_wp2
        go_roundg g1
        case measure => omega
        case rel => exact ⟨i + 1, by go_num, by omega, by omega, ⟨leg_step HA.out (by unfold LegOk; omega)⟩, rfl⟩
      · have c1 : (bt s (i : Int) != 95) = true := by simp; try omega
        have c2 : (bt s (i : Int) != 58) = true := by simp; try omega
        go_wp2
        go_ret
        exact ⟨by rw [legB_bad i hlt (by unfold LegOk; omega)]; rfl, Below.refl _ _⟩
    · clear hxi hri
      obtain rfl : i = s.size := by omega
      have c5 : s.toList.isEmpty = decide (s.size = 0) := by rw [emptyN_of s]
      by_cases he : s.size = 0
      · have hz : s.toList.isEmpty = true := by rw [c5]; simp [he]
        clear c5
        have HE := Aside0.mk he
        clear he
        go_wp2
        go_ret
        exact ⟨by rw [legB_empty HE.out]; rfl, Below.refl _ _⟩
      · have hz : s.toList.isEmpty = false := by rw [c5]; simp [he]
        clear c5
        have HE := Aside0.mk he
        clear he
        go_wp2
        go_ret
        exact ⟨by rw [legB_true ⟨Nat.pos_of_ne_zero HE.out, HA.out⟩]; rfl, Below.refl _ _⟩
end Go.Proofs.YtobbfenkdnaanaaGreatDoor

namespace Go.Proofs.YtobbfenkdnaanaaGreatDoor
open Go.RowKit

noncomputable def legsB (l : LL) : Bool := l.all fun p => legB p.1 false
noncomputable def setB (l : LL) : Bool := legsB l && ordB l
theorem legsB_bad {l : LL} (i : Nat) (h : i < l.length) (hb : legB (l[i]'h).1 false = false) : legsB l = false := by
  unfold legsB
  rw [List.all_eq_false]
  exact ⟨l[i]'h, List.getElem_mem h, by rw [hb]; simp⟩
theorem legsB_good {l : LL} (hb : ∀ i (h : i < l.length), legB (l[i]'h).1 false = true) : legsB l = true := by
  unfold legsB
  rw [List.all_eq_true]
  intro p hp
  obtain ⟨i, hi, rfl⟩ := List.mem_iff_getElem.1 hp
  exact hb i hi

set_option maxHeartbeats 800000 in
set_option maxRecDepth 100000 in
theorem setFits_calls (a : Option Addr) (cap : Nat) (l : LL) (w : World) (hl : Labs w a l) (hf : fitsB l = true) :
    Calls Tryz.prog 31 #[.slice a l.length cap] w fun e w' => e = .returned (.bool (setB l)) ∧ Below w.heap.size w w' := by
  have HL := Aside0.mk hl
  have hlen : l.length ≤ 2147483647 := by
    unfold fitsB at hf
    rw [Bool.and_eq_true] at hf
    exact of_decide_eq_true hf.1
  have HS := Aside0.mk (show ∀ i (h : i < l.length), (l[i]'h).1.size ≤ 2147483647 from fun i h => by
    unfold fitsB at hf
    rw [Bool.and_eq_true, List.all_eq_true] at hf
    have := hf.2 _ (List.getElem_mem h)
    unfold fits4B at this
    rw [Bool.and_eq_true] at this
    exact of_decide_eq_true this.1)
  clear hl hf
  obtain ⟨wo, hwo⟩ : ∃ wo : World, wo = w := ⟨_, rfl⟩
  subst hwo
  go_enter Tryz.func31, Tryz.ntmps31
  go_wp2_with fail
  go_loopg [3] (l.length + 1) (fun g v3 w' => ∃ i : Nat, v3 = .int .i64 (i : Int) ∧ i + g = l.length + 1 ∧ i ≤ l.length ∧ Aside0 (∀ j (h : j < l.length), j < i → legB (l[j]'h).1 false = true) ∧ Aside0 (Below wo.heap.size wo w'))
  case atStart => exact ⟨0, rfl, by omega, by omega, ⟨fun j h hj => by omega⟩, ⟨Below.refl _ _⟩⟩
  case round =>
    obtain ⟨i, rfl, hig, hile, HA, HB⟩ := hrel
    by_cases hlt : i < l.length
    · obtain ⟨g1, rfl⟩ : ∃ m, gk = m + 1 := ⟨gk - 1, by omega⟩
      rcases HL.out.next HB.out with h | ⟨b, off, ha, hblt, hc⟩
      · rw [h] at hlt; simp at hlt
      subst ha
      have c0 := (hc i hlt).1
      have hsz := HS.out i hlt
      obtain ⟨x, hx⟩ : ∃ x, (l[i]'hlt).1 = x := ⟨_, rfl⟩
      rw [hx] at c0 hsz
      have HX := Aside0.mk hx
      clear hc hx hblt
      have hC := fun W => legacy_false x hsz W
      go_wp2_with fail
      refine (hC _).mono ?_
      rintro e w1 ⟨rfl, hb1⟩
      have HB1 := Aside0.mk (below_step HB.out hb1)
      clear hb1 hC
      cases hv : legB x false with
      | true =>
        have HV := Aside0.mk hv
        clear hv
        go_wp2_with fail
        go_roundg g1
        case measure => omega
        case rel => exact ⟨i + 1, by go_num, by omega, by omega, ⟨fun j h hj => by
            rcases Nat.lt_or_ge j i with h' | h'
            · exact HA.out j h h'
            · obtain rfl : j = i := by omega
              rw [HX.out]; exact HV.out⟩, HB1⟩
      | false =>
        have HV := Aside0.mk (show setB l = false by unfold setB; rw [legsB_bad i hlt (by rw [HX.out]; exact hv)]; rfl)
        clear hv
        go_wp2
        go_ret
        exact ⟨by rw [HV.out]; rfl, HB1.out⟩
    · obtain rfl : i = l.length := by omega
      have HO := Aside0.mk (show setB l = ordB l by unfold setB; rw [legsB_good fun i h => HA.out i h h]; rfl)
      go_wp2_with fail
      refine (ordered_calls a cap l _ (HL.out.next HB.out) hlen).mono ?_
      rintro e w2 ⟨rfl, hb2⟩
      have HB2 := Aside0.mk (below_step HB.out hb2); clear hb2
      go_wp2
      go_ret
      exact ⟨by rw [HO.out]; rfl, HB2.out⟩
end Go.Proofs.YtobbfenkdnaanaaGreatDoor
