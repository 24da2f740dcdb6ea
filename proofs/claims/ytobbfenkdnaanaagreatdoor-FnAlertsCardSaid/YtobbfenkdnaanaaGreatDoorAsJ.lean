/- zzFits15, by contract. -/
import Derived.Test.YtobbfenkdnaanaaGreatDoorAsB
import Derived.Test.YtobbfenkdnaanaaGreatDoorAlG
set_option linter.unusedVariables false
set_option linter.unusedSimpArgs false
namespace Go.Proofs.YtobbfenkdnaanaaGreatDoor
open Go.RowKit Go.Maps Go.WideMaps Go.Sort

set_option maxHeartbeats 1000000 in
set_option maxRecDepth 100000 in
theorem fits15_calls (a : Option Addr) (cap : Nat) (xs : List AlD) (w : World) (hx : AlsIn w a xs) (hlen : xs.length ≤ 9223372036854775807) (hm : ∀ x ∈ xs, x.la.length ≤ 9223372036854775807 ∧ x.lb.length ≤ 9223372036854775807) :
    Calls Tryz.prog 28 #[.slice a xs.length cap] w fun e w' => (∃ b, e = .returned (.bool b) ∧ (b = true → xs.length ≤ 2147483647 ∧ ∀ x ∈ xs, fitsB x.la = true ∧ fitsB x.lb = true)) ∧ Below w.heap.size w w' := by
  have HX := Aside0.mk hx
  have HM := Aside0.mk hm
  clear hx hm
  by_cases hbig : xs.length ≤ 2147483647
  · have d1 : decide (2147483647 < (xs.length : Int)) = false := decide_eq_false (by omega)
    obtain ⟨wo, hwo⟩ : ∃ wo : World, wo = w := ⟨_, rfl⟩
    subst hwo
    go_enter Tryz.func28, Tryz.ntmps28
    go_wp2_with fail
    go_loopg [10] (xs.length + 1) (fun g v10 w' => ∃ i : Nat, v10 = .int .i64 (i : Int) ∧ i + g = xs.length + 1 ∧ i ≤ xs.length ∧ Aside0 (∀ j (h : j < xs.length), j < i → fitsB (xs[j]'h).la = true ∧ fitsB (xs[j]'h).lb = true) ∧ Aside0 (Below wo.heap.size wo w'))
    case atStart => exact ⟨0, rfl, by omega, by omega, ⟨fun j h hj => by omega⟩, ⟨Below.refl _ _⟩⟩
    case round =>
      obtain ⟨i, rfl, hig, hile, HA, HB⟩ := hrel
      by_cases hlt : i < xs.length
      · obtain ⟨g1, rfl⟩ : ∃ m, gk = m + 1 := ⟨gk - 1, by omega⟩
        rcases HX.out.next HB.out with h | ⟨b, off, ha, hblt, hc⟩
        · rw [h] at hlt; simp at hlt
        subst ha
        obtain ⟨c0, c1, c2, c3, hla, hlb⟩ := hc i hlt
        obtain ⟨x, hxx⟩ : ∃ x, xs[i]'hlt = x := ⟨_, rfl⟩
        rw [hxx] at c0 c1 c2 c3 hla hlb
        have hmx := HM.out x (by rw [← hxx]; exact List.getElem_mem hlt)
        have HXX := Aside0.mk hxx
        have HLL := Aside0.mk (And.intro hla (And.intro hlb hmx))
        clear hc hxx hla hlb hblt hmx
        go_wp2_with fail
        refine (fits9_calls x.a x.a' x.cap x.cap' x.la x.lb x.s x.e _ (HLL.out.1.next (below_alloc (Below.refl _ _) _)) (HLL.out.2.1.next (below_alloc (Below.refl _ _) _)) HLL.out.2.2.1 HLL.out.2.2.2).mono ?_
        rintro e w1 ⟨rfl, hb1⟩
        have HB1 := Aside0.mk (below_step (below_alloc HB.out _) hb1); clear hb1
        cases hf : (fitsB x.la && fitsB x.lb) with
        | true =>
          have HF := Aside0.mk hf
          clear hf
          go_wp2_with fail
          go_roundg g1
          case measure => omega
          case rel => exact ⟨i + 1, by go_num, by omega, by omega, ⟨fun j h hj => by
            rcases Nat.lt_or_ge j i with h' | h'
            · exact HA.out j h h'
            · obtain rfl : j = i := by omega
              rw [HXX.out]
              have h9 := HF.out
              rw [Bool.and_eq_true] at h9
              exact h9⟩, HB1⟩
        | false =>
          clear hf
          go_wp2
          go_ret
          exact ⟨⟨false, rfl, fun h => by cases h⟩, HB1.out⟩
      · have HI := Aside0.mk (show i = xs.length by omega)
        clear hig hile
        go_wp2_with fail
        go_ret
        refine ⟨⟨true, rfl, fun _ => ⟨hbig, fun x hx => ?_⟩⟩, HB.out⟩
        obtain ⟨j, hj, rfl⟩ := List.mem_iff_getElem.1 hx
        exact HA.out j hj (by rw [HI.out]; exact hj)
  · have d1 : decide (2147483647 < (xs.length : Int)) = true := decide_eq_true (by omega)
    go_enter Tryz.func28, Tryz.ntmps28
    go_wp2
    go_ret
    exact ⟨⟨false, rfl, fun h => by cases h⟩, Below.refl _ _⟩
end Go.Proofs.YtobbfenkdnaanaaGreatDoor
