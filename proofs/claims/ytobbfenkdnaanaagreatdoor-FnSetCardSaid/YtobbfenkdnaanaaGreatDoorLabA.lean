/- Labels in memory; zzFits3, by contract. -/
import Derived.Test.YtobbfenkdnaanaaGreatDoorDurF
import Derived.Laws.RangeString
import Derived.WalkMore
set_option linter.unusedVariables false
set_option linter.unusedSimpArgs false
namespace Go.Proofs.YtobbfenkdnaanaaGreatDoor
open Go.RowKit
abbrev LL := List (ByteArray × ByteArray)
def fits4B (p : ByteArray × ByteArray) : Bool := decide (p.1.size ≤ 2147483647) && decide (p.2.size ≤ 2147483647)
set_option maxRecDepth 100000 in
theorem fits4_calls (x y : ByteArray) (w : World) : Calls Tryz.prog 43 #[.agg #[.string x, .string y]] w fun e w' => e = .returned (.bool (fits4B (x, y))) ∧ Below w.heap.size w w' := by
  by_cases h1 : x.size ≤ 2147483647
  · have d1 : decide (2147483647 < (x.size : Int)) = false := decide_eq_false (by omega)
    by_cases h2 : y.size ≤ 2147483647
    · have d2 : decide (2147483647 < (y.size : Int)) = false := decide_eq_false (by omega)
      have HF := Aside0.mk (show fits4B (x, y) = true by simp [fits4B, h1, h2])
      clear h1 h2
      go_enter Tryz.func43, Tryz.ntmps43
      go_wp2
      go_ret
      exact ⟨by rw [HF.out]; rfl, below_alloc (Below.refl _ _) _⟩
    · have d2 : decide (2147483647 < (y.size : Int)) = true := decide_eq_true (by omega)
      have HF := Aside0.mk (show fits4B (x, y) = false by simp [fits4B, h1, h2])
      clear h1 h2
      go_enter Tryz.func43, Tryz.ntmps43
      go_wp2
      go_ret
      exact ⟨by rw [HF.out]; rfl, below_alloc (Below.refl _ _) _⟩
  · have d1 : decide (2147483647 < (x.size : Int)) = true := decide_eq_true (by omega)
    have HF := Aside0.mk (show fits4B (x, y) = false by simp [fits4B, h1])
    clear h1
    go_enter Tryz.func43, Tryz.ntmps43
    go_wp2
    go_ret
    exact ⟨by rw [HF.out]; rfl, below_alloc (Below.refl _ _) _⟩

/-- A slice's labels, in memory. -/
def Labs (w : World) (a : Option Addr) (l : LL) : Prop :=
  l = [] ∨ ∃ b off, a = some ⟨b, off, none⟩ ∧ b < w.heap.size ∧ ∀ i (h : i < l.length), w.cell? ⟨b, off + i * 2, none⟩ = some (.string (l[i]'h).1) ∧ w.cell? ⟨b, off + i * 2 + 1, none⟩ = some (.string (l[i]'h).2)
theorem Labs.next {w w' : World} {a : Option Addr} {l : LL} (h : Labs w a l) (hb : Below w.heap.size w w') : Labs w' a l := by
  rcases h with h | ⟨b, off, ha, hlt, hc⟩
  · exact .inl h
  · exact .inr ⟨b, off, ha, Nat.lt_of_lt_of_le hlt hb.size, fun i hi => ⟨by rw [hb.cell (p := ⟨b, off + i * 2, none⟩) hlt]; exact (hc i hi).1, by rw [hb.cell (p := ⟨b, off + i * 2 + 1, none⟩) hlt]; exact (hc i hi).2⟩⟩
def fitsB (l : LL) : Bool := decide (l.length ≤ 2147483647) && l.all fits4B

set_option maxRecDepth 100000 in
theorem fits_calls (a : Option Addr) (cap : Nat) (l : LL) (w : World) (hl : Labs w a l) (hlen : l.length ≤ 9223372036854775807) :
    Calls Tryz.prog 10 #[.slice a l.length cap] w fun e w' => e = .returned (.bool (fitsB l)) ∧ Below w.heap.size w w' := by
  have HL := Aside0.mk hl
  clear hl
  by_cases hbig : l.length ≤ 2147483647
  · have d1 : decide (2147483647 < (l.length : Int)) = false := decide_eq_false (by omega)
    obtain ⟨wo, hwo⟩ : ∃ wo : World, wo = w := ⟨_, rfl⟩
    subst hwo
    go_enter Tryz.func10, Tryz.ntmps10
    go_wp2_with fail
    go_loopg [10] (l.length + 1) (fun g v10 w' => ∃ i : Nat, v10 = .int .i64 (i : Int) ∧ i + g = l.length + 1 ∧ i ≤ l.length ∧ Aside0 (∀ j (h : j < l.length), j < i → fits4B (l[j]'h) = true) ∧ Aside0 (Below wo.heap.size wo w'))
    case atStart => exact ⟨0, rfl, by omega, by omega, ⟨fun j h hj => by omega⟩, ⟨Below.refl _ _⟩⟩
    case round =>
      obtain ⟨i, rfl, hig, hile, HA, HB⟩ := hrel
      by_cases hlt : i < l.length
      · obtain ⟨g1, rfl⟩ : ∃ m, gk = m + 1 := ⟨gk - 1, by omega⟩
        rcases HL.out.next HB.out with h | ⟨b, off, ha, hblt, hc⟩
        · rw [h] at hlt; simp at hlt
        subst ha
        have c0 := (hc i hlt).1
        have c1 := (hc i hlt).2
        obtain ⟨x, hx⟩ : ∃ x, (l[i]'hlt).1 = x := ⟨_, rfl⟩
        obtain ⟨y, hy⟩ : ∃ y, (l[i]'hlt).2 = y := ⟨_, rfl⟩
        rw [hx] at c0
        rw [hy] at c1
        have HXY := Aside0.mk (show l[i]'hlt = (x, y) by rw [← hx, ← hy])
        clear hc hx hy hblt
        go_wp2_with fail
        refine (fits4_calls x y _).mono ?_
        rintro e w1 ⟨rfl, hb1⟩
        have HB1 := Aside0.mk (below_step (below_alloc HB.out _) hb1); clear hb1
        cases hf : fits4B (x, y) with
        | true =>
          have HF := Aside0.mk hf
          clear hf
          go_wp2_with fail
          go_roundg g1
          case measure => omega
          case rel => exact ⟨i + 1, by go_num, by omega, by omega, ⟨fun j h hj => by
            rcases Nat.lt_or_ge j i with h' | h'
            · exact HA.out j h h'
            · obtain rfl : j = i := by omega
              rw [HXY.out]; exact HF.out⟩, HB1⟩
        | false =>
          have HF := Aside0.mk hf
          clear hf
          go_wp2
          go_ret
          refine ⟨?_, HB1.out⟩
          have : fitsB l = false := by
            unfold fitsB
            rw [Bool.and_eq_false_iff]
            right
            rw [List.all_eq_false]
            exact ⟨l[i]'hlt, List.getElem_mem hlt, by rw [HXY.out, HF.out]; simp⟩
          rw [this]; rfl
      · have HI := Aside0.mk (show i = l.length by omega)
        clear hig hile
        go_wp2_with fail
        go_ret
        refine ⟨?_, HB.out⟩
        have : fitsB l = true := by
          unfold fitsB
          rw [Bool.and_eq_true, List.all_eq_true]
          refine ⟨decide_eq_true hbig, fun x hx => ?_⟩
          obtain ⟨j, hj, rfl⟩ := List.getElem_of_mem hx
          exact HA.out j hj (by have := HI.out; omega)
        rw [this]; rfl
  · have d1 : decide (2147483647 < (l.length : Int)) = true := decide_eq_true (by omega)
    have HF := Aside0.mk (show fitsB l = false by simp [fitsB, hbig])
    clear hbig
    go_enter Tryz.func10, Tryz.ntmps10
    go_wp2
    go_ret
    exact ⟨by rw [HF.out]; rfl, Below.refl _ _⟩
end Go.Proofs.YtobbfenkdnaanaaGreatDoor
