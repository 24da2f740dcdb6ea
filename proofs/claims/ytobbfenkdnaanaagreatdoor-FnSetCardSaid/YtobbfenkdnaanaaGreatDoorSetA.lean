/- A set of labels is made: impl.set, by contract. -/
import Derived.Test.YtobbfenkdnaanaaGreatDoorMapA
set_option linter.unusedVariables false
set_option linter.unusedSimpArgs false
namespace Go.Proofs.YtobbfenkdnaanaaGreatDoor
open Go.RowKit Go.Maps Go.WideMaps

theorem once_take : ∀ {l : LL}, Once l → ∀ (i : Nat) (h : i < l.length), getL (l.take i) (l[i]'h).1 = none
  | l, ho, i, h => by
    rw [getL_none]
    intro hm
    rw [List.map_take] at hm
    obtain ⟨j, hj, e⟩ := List.getElem_of_mem hm
    rw [List.length_take] at hj
    have hj' : j < (l.map Prod.fst).length := by omega
    rw [List.getElem_take] at e
    have hi' : i < (l.map Prod.fst).length := by rw [List.length_map]; exact h
    have e2 : (l.map Prod.fst)[j]'hj' = (l.map Prod.fst)[i]'hi' := by rw [e, List.getElem_map]
    have := (List.pairwise_iff_getElem.1 ho) j i hj' hi' (by omega)
    exact this e2
/-- Labels within what a law looks at. -/
def Sized (l : LL) : Prop := l.length ≤ 20 ∧ ∀ p ∈ l, p.1.size ≤ 300 ∧ p.2.size ≤ 300

set_option maxHeartbeats 1000000 in
set_option maxRecDepth 100000 in
theorem set_calls (a : Option Addr) (cap : Nat) (l : LL) (w : World) (hl : Labs w a l) (ho : Once l) (hs : Sized l) :
    Calls Tryz.prog 50 #[.slice a l.length cap] w fun e w' => ∃ b, e = .returned (.map (some b)) ∧ w.heap.size ≤ b ∧ MapIs w' b 20 l ∧ Below w.heap.size w w' := by
  have HL := Aside0.mk hl
  have HS := Aside0.mk hs
  have HO := Aside0.mk ho
  have hlen := hs.1
  clear hl hs ho
  obtain ⟨wo, hwo⟩ : ∃ wo : World, wo = w := ⟨_, rfl⟩
  subst hwo
  have hmm := @run_makeMap Tryz.prog
  go_enter Tryz.func50, Tryz.ntmps50
  go_wp2_with fail
  go_loopg [9] (l.length + 1) (fun g v9 w' => ∃ i : Nat, v9 = .int .i64 (i : Int) ∧ i + g = l.length + 1 ∧ i ≤ l.length ∧ Aside0 (MapIs w' wo.heap.size i (l.take i)) ∧ Aside0 (Below wo.heap.size wo w'))
  case atStart => exact ⟨0, rfl, by omega, by omega, ⟨MapIs.made wo⟩, ⟨below_alloc (Below.refl _ _) _⟩⟩
  case round =>
    obtain ⟨i, rfl, hig, hile, HM, HB⟩ := hrel
    by_cases hlt : i < l.length
    · obtain ⟨g1, rfl⟩ : ∃ m, gk = m + 1 := ⟨gk - 1, by omega⟩
      rcases HL.out.next HB.out with h | ⟨b, off, ha, hblt, hc⟩
      · rw [h] at hlt; simp at hlt
      subst ha
      have c0 := (hc i hlt).1
      have c1 := (hc i hlt).2
      have htk : l.take (i + 1) = l.take i ++ [l[i]'hlt] := by rw [List.take_add_one, List.getElem?_eq_getElem hlt]; rfl
      have hnew : getL (l.take i) (l[i]'hlt).1 = none := once_take HO.out i hlt
      have hsz := HS.out.2 _ (List.getElem_mem hlt)
      obtain ⟨x, hx⟩ : ∃ x, (l[i]'hlt).1 = x := ⟨_, rfl⟩
      obtain ⟨y, hy⟩ : ∃ y, (l[i]'hlt).2 = y := ⟨_, rfl⟩
      have hxy : l[i]'hlt = (x, y) := by rw [← hx, ← hy]
      rw [hx] at c0 hnew hsz
      rw [hy] at c1 hsz
      rw [hxy] at htk
      have HT := Aside0.mk (And.intro htk (And.intro hnew hsz))
      clear hc hx hy hblt hxy htk hnew hsz
      have hm2 : i < maxLen := by unfold maxLen; omega
      have HM2 := Aside0.mk hm2
      clear hm2
      go_wp2_with (at_mapUpdate; refine wpList_store_label _ rfl _ _ _ 75 rfl Tryz.underlying75 wo.heap.size i _ rfl (HM.out.alloc _) HM2.out _ _ rfl rfl (by have := HT.out.2.2.1; unfold maxLen; omega) (by have := HT.out.2.2.2; unfold maxLen; omega) HT.out.2.1 ?_; intro w2 hm3 hg3)
      have HM3 := Aside0.mk hm3
      have HB3 := Aside0.mk ((below_alloc HB.out _).grown hg3 (by have := HB.out.size; simp; omega) (fun k hk => by cases hk; exact Nat.le_refl _))
      clear hm3 hg3
      go_wp2_with fail
      go_roundg g1
      case measure => omega
      case rel => exact ⟨i + 1, by go_num, by omega, by omega, ⟨by rw [HT.out.1]; exact HM3.out⟩, HB3⟩
    · have HI := Aside0.mk (show i = l.length by omega)
      clear hig hile
      go_wp2_with fail
      go_ret
      refine ⟨wo.heap.size, rfl, Nat.le_refl _, ?_, HB.out⟩
      have h1 := HM.out
      rw [HI.out, List.take_length] at h1
      exact h1.mono (by omega)
end Go.Proofs.YtobbfenkdnaanaaGreatDoor
