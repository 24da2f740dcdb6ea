/- strings.Builder's WriteRune of any letter, by contract. -/
import Derived.Test.YtaajhionmdjhjaaDoorBldB
import Derived.Test.YtaajhionmdjhjaaDoorApr
set_option linter.unusedVariables false
set_option linter.unusedSimpArgs false
namespace Go.Proofs.YtaajhionmdjhjaaDoor
open Go.RowKit

set_option maxHeartbeats 1000000 in
set_option maxRecDepth 100000 in
/-- WriteRune of any letter. -/
theorem writeRuneAny_calls (B b : Nat) (bs : List Value) (r : Int) (hr0 : -2147483648 ≤ r) (hr1 : r ≤ 2147483647) (w : World) (h : Lib.IsBuilderF 99 5 B b bs w) (hlen : bs.length + 4 ≤ 140737488355328) (hBw : B ≤ w.heap.size) :
    Calls Tryd.prog 76 #[.pointer (some ⟨b, 0, none⟩), .int .i32 r] w fun e w' => (∃ n, e = .returned (.tuple #[.int .i64 n, .nilIface])) ∧ Wrote B b (bs ++ Lib.runeCells r) w w' := by
  obtain ⟨i0, hi, hz0, hz1, hz2⟩ := info_parts infoU
  go_enter Tryd.func76, Tryd.ntmps76
  go_wp2_with (go_at_call 90; refine (copy_calls B b bs _ h).mono ?_)
  rintro e w1 ⟨rfl, h1, hb1, hk1⟩
  obtain ⟨hB, v, hbk, hown, hne⟩ := h1
  have c0 : w1.cell? ⟨b, 0, none⟩ = some (.pointer (some ⟨b, 0, none⟩)) := by rw [Lib.cell_of_heap hbk]; rfl
  have c1 : w1.cell? ⟨b, 1, none⟩ = some v := by rw [Lib.cell_of_heap hbk]; rfl
  obtain ⟨ao, n', cap, rfl⟩ : ∃ ao n' cap, v = .slice ao n' cap := by
    rcases hown.2 with ⟨hv, _⟩ | ⟨g, cap, cur, fz, hv, _⟩
    · exact ⟨_, _, _, hv⟩
    · exact ⟨_, _, _, hv⟩
  have H := Aside0.mk hb1.size
  go_wp2_with (go_at_call 91; refine (Any.utf8_AppendRune_own Tryd.lays242 Tryd.Builder_Extra_242 B _ bs.length bs r hr0 hr1 _ hown hlen (by have := H.out; omega)).mono ?_)
  rintro e w2 ⟨v', rfl, hown', o, hgrow⟩
  have hlt : b < w1.heap.size := by
    rcases Nat.lt_or_ge b w1.heap.size with h' | h'
    · exact h'
    · simp [Array.getElem?_eq_none h'] at hbk
  have hb2 : w2.heap[b]? = some (.cells #[.pointer (some ⟨b, 0, none⟩), .slice ao n' cap] 99 (0, 0)) := by
    rw [hgrow.block b (by simp; omega) (fun e => hne e.symm), Lib.alloc_old w1 _ b hlt]
    exact hbk
  have d0 : w2.cell? ⟨b, 0, none⟩ = some (.pointer (some ⟨b, 0, none⟩)) := by rw [Lib.cell_of_heap hb2]; rfl
  have d1 : w2.cell? ⟨b, 1, none⟩ = some (.slice ao n' cap) := by rw [Lib.cell_of_heap hb2]; rfl
  have f1 : w2.frozen? ⟨b, 1, none⟩ = false := Lib.frozen_of_heap hb2 1
  obtain ⟨ao', n2, cap', rfl⟩ : ∃ ao' n2 cap', v' = .slice ao' n2 cap' := by
    rcases hown'.2 with ⟨hv, _⟩ | ⟨g, cap, cur, fz, hv, _⟩
    · exact ⟨_, _, _, hv⟩
    · exact ⟨_, _, _, hv⟩
  have HO := Aside0.mk hown'
  have HGW := Aside0.mk hgrow
  clear hown' hgrow
  go_wp2
  refine bodyPost_ret (v := .tuple #[.int .i64 (wrap64 ((n2 : Int) - (n' : Int))), .nilIface]) (by simp [results, Tryd.results76, go_sem]) rfl ⟨⟨_, rfl⟩, ?_, ?_, ((hk1.alloc _).grown HGW.out (Lib.ownsRowF_kind (hown.alloc _))).setCell ⟨b, 1, none⟩ rfl _⟩
  · exact Lib.BuilderAtF.put (T := 99) (e := 5) hB hb2 (bs' := bs ++ Lib.runeCells r) (by rw [List.length_append]; exact HO.out) (by decide)
  · exact ((hb1.alloc (by have := hb1.size; omega) _).grown HGW.out (by have := hb1.size; simp; omega) (fun k hk => (hown.lt k hk).1)).setCell (p := ⟨b, 1, none⟩) hB _
end Go.Proofs.YtaajhionmdjhjaaDoor
