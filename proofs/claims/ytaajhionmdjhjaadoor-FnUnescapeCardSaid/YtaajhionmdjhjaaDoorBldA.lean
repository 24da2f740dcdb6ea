/- strings.Builder's writers at this program, by contract (a builder that is never copied). -/
import Derived.Test.YtaajhionmdjhjaaDoorDurF
import Derived.Test.YtaajhionmdjhjaaDoorBld
import Derived.Lib.FrozenHead2
import Derived.Lib.OthersKept
set_option linter.unusedVariables false
set_option linter.unusedSimpArgs false
namespace Go.Proofs.YtaajhionmdjhjaaDoor
open Go.RowKit

theorem sizeB : (Tryd.prog.info? 99).map (·.size) = some 2 := by kernel_rfl
theorem liesB : liesAt Tryd.prog Tryd.prog.depth 99 (2 / Tryd.prog.cellsOf 99) 0 99 1 = true := by kernel_rfl
theorem infoU : (Tryd.prog.info? 5).map (fun i => (i.zero, i.size, i.bytes)) = some (some (.int .u8 0), 1, 1) := by kernel_rfl

/-- What a write leaves. -/
def Wrote (B b : Nat) (bs : List Value) (w w' : World) : Prop := Lib.BuilderAtF 99 5 B b (.pointer (some ⟨b, 0, none⟩)) bs w' ∧ Below B w w' ∧ Lib.OthersKept 5 (some b) w w'

set_option maxRecDepth 100000 in
theorem copy_calls (B b : Nat) (bs : List Value) (w : World) (h : Lib.IsBuilderF 99 5 B b bs w) :
    Calls Tryd.prog 90 #[.pointer (some ⟨b, 0, none⟩)] w fun e w' => e = .returned (.tuple #[]) ∧ Wrote B b bs w w' := by
  rcases h with h | h
  · have c0 := h.cell0
    have hf := h.frozen0
    obtain ⟨j, hj, hjs⟩ := Option.map_eq_some_iff.1 sizeB
    have k1 := Lib.run_to_unsafe (P := Tryd.prog) w ⟨b, 0, none⟩ Tryd.underlying97 Tryd.underlying131 hj (by rw [hjs]; decide) h.shape (Nat.zero_lt_succ 1)
    have k3 := Lib.run_from_unsafe (P := Tryd.prog) w ⟨b, 0, none⟩ Tryd.underlying131 Tryd.underlying97 hj h.shape liesB
    have H := Aside0.mk h
    clear h hj hjs
    go_enter Tryd.func90, Tryd.ntmps90
    go_wp2
    rw [run_callFunc_extern Tryd.func105 (by kernel_rfl) (by kernel_rfl) (by kernel_rfl) (e := Extern.AbiNoEscape.same) (by kernel_rfl)]
    rw [Lib.run_noEscape]
    simp only [Result.andThen]
    rw [Oper.upon_value]
    go_wp2
    go_end0
    exact ⟨rfl, H.out.used _, (Below.refl B w).setCell (p := ⟨b, 0, none⟩) H.out.1 _, (Lib.OthersKept.refl _ _ w).setCell ⟨b, 0, none⟩ rfl _⟩
  · have c0 := h.cell0
    have H := Aside0.mk h
    clear h
    go_enter Tryd.func90, Tryd.ntmps90
    obtain ⟨j, hj, hjs⟩ := Option.map_eq_some_iff.1 sizeB
    have k1 := Lib.run_neq_ptr_same (P := Tryd.prog) w (⟨b, 0, none⟩ : Addr) Tryd.underlying97 hj
    clear hj hjs
    go_wp2
    go_end0
    exact ⟨rfl, H.out, Below.refl B _, Lib.OthersKept.refl _ _ _⟩

set_option maxHeartbeats 1000000 in
set_option maxRecDepth 100000 in
/-- WriteString. -/
theorem writeString_calls (B b : Nat) (bs : List Value) (s : ByteArray) (w : World) (h : Lib.IsBuilderF 99 5 B b bs w) (hlen : bs.length + s.size ≤ 140737488355328) (hBw : B ≤ w.heap.size) :
    Calls Tryd.prog 78 #[.pointer (some ⟨b, 0, none⟩), .string s] w fun e w' => e = .returned (.tuple #[.int .i64 s.size, .nilIface]) ∧ Wrote B b (bs ++ Lib.strCells s) w w' := by
  obtain ⟨i0, hi, hz0, hz1, hz2⟩ := info_parts infoU
  go_enter Tryd.func78, Tryd.ntmps78
  go_wp2_with (go_at_call 90; refine (copy_calls B b bs _ h).mono ?_)
  rintro e w1 ⟨rfl, h1, hb1, hk1⟩
  obtain ⟨hB, v, hbk, hown, hne⟩ := h1
  have c0 : w1.cell? ⟨b, 0, none⟩ = some (.pointer (some ⟨b, 0, none⟩)) := by rw [Lib.cell_of_heap hbk]; rfl
  have c1 : w1.cell? ⟨b, 1, none⟩ = some v := by rw [Lib.cell_of_heap hbk]; rfl
  go_wp2_with (at_builtin; refine Lib.wpList_append_own_stringF _ rfl _ _ 73 9 rfl B 5 i0 Tryd.underlying73 Tryd.underlying9 hi hz0 hz1 hz2 _ _ _ rfl hown s rfl ?c3 ?c4 ?c5 ?_)
  case c3 => unfold maxLen; omega
  case c4 => omega
  case c5 => have := hb1.size; omega
  intro v' w2 hown' hgrow _
  have hlt : b < w1.heap.size := by
    rcases Nat.lt_or_ge b w1.heap.size with h' | h'
    · exact h'
    · simp [Array.getElem?_eq_none h'] at hbk
  have hb2 : w2.heap[b]? = some (.cells #[.pointer (some ⟨b, 0, none⟩), v] 99 (0, 0)) := by
    rw [hgrow.block b hlt (fun e => hne e.symm)]
    exact hbk
  have d0 : w2.cell? ⟨b, 0, none⟩ = some (.pointer (some ⟨b, 0, none⟩)) := by rw [Lib.cell_of_heap hb2]; rfl
  have d1 : w2.cell? ⟨b, 1, none⟩ = some v := by rw [Lib.cell_of_heap hb2]; rfl
  have f1 : w2.frozen? ⟨b, 1, none⟩ = false := Lib.frozen_of_heap hb2 1
  obtain ⟨ao, n', cap, rfl⟩ : ∃ ao n' cap, v' = .slice ao n' cap := by
    rcases hown'.2 with ⟨hv, _⟩ | ⟨g, cap, cur, fz, hv, _⟩
    · exact ⟨_, _, _, hv⟩
    · exact ⟨_, _, _, hv⟩
  go_wp2
  go_ret2
  refine ⟨rfl, ?_, ?_, (hk1.grown hgrow (Lib.ownsRowF_kind hown)).setCell ⟨b, 1, none⟩ rfl _⟩
  · exact Lib.BuilderAtF.put (T := 99) (e := 5) hB hb2 (bs' := bs ++ Lib.strCells s) (by simpa [Lib.strCells_length] using hown') (by decide)
  · exact (hb1.grown hgrow (by have := hb1.size; omega) (fun k hk => (hown.lt k hk).1)).setCell (p := ⟨b, 1, none⟩) hB _

set_option maxHeartbeats 1000000 in
set_option maxRecDepth 100000 in
/-- WriteRune of a letter below 128. -/
theorem writeRune_calls (B b : Nat) (bs : List Value) (r : Int) (hr0 : 0 ≤ r) (hr1 : r < 128) (w : World) (h : Lib.IsBuilderF 99 5 B b bs w) (hlen : bs.length + 1 ≤ 140737488355328) (hBw : B ≤ w.heap.size) :
    Calls Tryd.prog 76 #[.pointer (some ⟨b, 0, none⟩), .int .i32 r] w fun e w' => (∃ n, e = .returned (.tuple #[.int .i64 n, .nilIface])) ∧ Wrote B b (bs ++ [.int .u8 r]) w w' := by
  obtain ⟨i0, hi, hz0, hz1, hz2⟩ := info_parts infoU
  go_enter Tryd.func76, Tryd.ntmps76
  go_wp2_with (go_at_call 90; refine (copy_calls B b bs _ h).mono ?_)
  rintro e w1 ⟨rfl, h1, hb1, hk1⟩
  obtain ⟨hB, v, hbk, hown, hne⟩ := h1
  have c0 : w1.cell? ⟨b, 0, none⟩ = some (.pointer (some ⟨b, 0, none⟩)) := by rw [Lib.cell_of_heap hbk]; rfl
  have c1 : w1.cell? ⟨b, 1, none⟩ = some v := by rw [Lib.cell_of_heap hbk]; rfl
  obtain ⟨ao, n', cap, rfl⟩ : ∃ ao n' cap, v = .slice ao n' cap := by
    rcases hown.2 with ⟨hv, _⟩ | ⟨g, cap, cur, fz, hv, _⟩
    · exact ⟨_, _, _, hv⟩
    · exact ⟨_, _, _, hv⟩
  have H := Aside0.mk hb1.size
  go_wp2_with (first | (go_at_call 91; go_in) | (at_builtin; refine wpList_append_ownF _ rfl _ _ 73 rfl B 5 i0 (.int .u8 0) 1 1 Tryd.underlying73 hi hz0 hz1 hz2 rfl (by decide) _ _ _ rfl (hown.alloc _) ⟨w1.heap.size, 0, none⟩ 1 1 [.int .u8 r] rfl rfl ?c1 ?c2 ?c3 ?c4 ?c5 ?_))
  case c1 =>
    intro j u hj
    match j, hj with
    | 0, hj => simp at hj; subst hj; simp [Addr.add]
  case c2 => intro u hu; simp at hu; subst hu; rfl
  case c3 => unfold maxLen; omega
  case c4 => omega
  case c5 => have := hb1.size; simp; omega
  intro v' w2 hown' hgrow _
  have hlt : b < w1.heap.size := by
    rcases Nat.lt_or_ge b w1.heap.size with h' | h'
    · exact h'
    · simp [Array.getElem?_eq_none h'] at hbk
  have hb2 : w2.heap[b]? = some (.cells #[.pointer (some ⟨b, 0, none⟩), .slice ao n' cap] 99 (0, 0)) := by
    rw [hgrow.block b (by simp; omega) (fun e => hne e.symm), Lib.alloc_old w1 _ b hlt]
    exact hbk
  have d0 : w2.cell? ⟨b, 0, none⟩ = some (.pointer (some ⟨b, 0, none⟩)) := by rw [Lib.cell_of_heap hb2]; rfl
  have d1 : w2.cell? ⟨b, 1, none⟩ = some (.slice ao n' cap) := by rw [Lib.cell_of_heap hb2]; rfl
  have f1 : w2.frozen? ⟨b, 1, none⟩ = false := Lib.frozen_of_heap hb2 1
  obtain ⟨g, cap', rfl⟩ : ∃ g cap, v' = .slice (some ⟨g, 0, none⟩) (bs.length + 1) cap := by
    rcases hown'.2 with ⟨_, h0⟩ | ⟨g, cap, cur, fz, hv, _⟩
    · omega
    · exact ⟨g, cap, hv⟩
  go_wp2
  refine bodyPost_ret (v := .tuple #[.int .i64 (wrap64 ((bs.length : Int) + 1 - (n' : Int))), .nilIface]) (by simp [results, Tryd.results76, go_sem]) rfl ⟨⟨_, rfl⟩, ?_, ?_, ((hk1.alloc _).grown hgrow (Lib.ownsRowF_kind (hown.alloc _))).setCell ⟨b, 1, none⟩ rfl _⟩
  · exact Lib.BuilderAtF.put (T := 99) (e := 5) hB hb2 (bs' := bs ++ [.int .u8 r]) (by simpa using hown') (by decide)
  · exact ((hb1.alloc (by have := hb1.size; omega) _).grown hgrow (by have := hb1.size; simp; omega) (fun k hk => (hown.lt k hk).1)).setCell (p := ⟨b, 1, none⟩) hB _
end Go.Proofs.YtaajhionmdjhjaaDoor
