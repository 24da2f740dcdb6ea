/- Durations: impl.DurationUnmarshal by its contract. -/
import Derived.Test.YtaajhionmdjhjaaDoorWaysA
import Derived.Lib.ConvBytes
import Derived.Lib.AtoiErrMem
import Derived.Laws.BytesArg
set_option linter.unusedVariables false
set_option linter.unusedSimpArgs false
namespace Go.Proofs.YtaajhionmdjhjaaDoor
open Go.RowKit

theorem conv_sb (w : World) (s : ByteArray) :
    (convert 9 73 (.string s)).run Tryd.prog w = .ok (.slice (some ⟨w.heap.size, 0, none⟩) s.size (grownCap w s.size 0 5)) (Lib.bytesWorld w 5 s) :=
  Lib.run_convert_string_bytes w 9 73 5 s (u := .string) Tryd.underlying9 Tryd.underlying73 Tryd.underlying5

/-- The bytes of a string as a list of numbers. -/
def codes (s : ByteArray) : List Int := s.data.toList.map fun c => (c.toNat : Int)

theorem codes_length (s : ByteArray) : (codes s).length = s.size := by simp [codes]

theorem strOf_codes (s : ByteArray) : strOfNums (codes s) = s := by
  apply ByteArray.ext
  apply Array.toList_inj.mp
  rw [strOfNums_data, codes, List.map_map]
  conv => rhs; rw [← List.map_id s.data.toList]
  apply List.map_congr_left
  intro c _
  simp

/-- A row of the string's bytes, wherever it lies: back to the string. -/
theorem conv_bs (w : World) (s : ByteArray) (b cap : Nat) (hc : ∀ i, i < s.size → w.cell? ⟨b, i, none⟩ = some (.int .u8 ((codes s).getD i 0))) :
    (convert 73 9 (.slice (some ⟨b, 0, none⟩) s.size cap)).run Tryd.prog w = .ok (.string s) w := by
  have h := run_convert_bytes_arg (P := Tryd.prog) w 73 5 Tryd.underlying73 Tryd.underlying5 b 0 s.size cap (codes s) (codes_length s) (fun i hi => by rw [Nat.zero_add]; exact hc i hi) 9 Tryd.underlying9
  rw [strOf_codes] at h
  exact h

theorem codes_getD (s : ByteArray) (i : Nat) (hi : i < s.size) : (codes s).getD i 0 = ((s.data.toList.getD i 0).toNat : Int) := by
  have h' : i < s.data.toList.length := hi
  simp [codes, List.getD, List.getElem?_map, List.getElem?_eq_getElem h']

/-- The row that a conversion made, read at once. -/
theorem conv_row (w : World) (s : ByteArray) (i : Nat) (hi : i < s.size) : (Lib.bytesWorld w 5 s).cell? ⟨w.heap.size, i, none⟩ = some (.int .u8 ((codes s).getD i 0)) := by
  rw [codes_getD s i hi]
  exact Lib.bytesWorld_cell w 5 s i hi

set_option maxHeartbeats 1000000 in
set_option maxRecDepth 100000 in
theorem unm1_calls (s : ByteArray) (hs : s.size ≤ 281474976710656) (w : World) (hg : Glob w) :
    Calls Tryd.prog 54 #[.pointer (some ⟨w.heap.size, 0, none⟩), .pointer (some ⟨w.heap.size + 1, 0, none⟩), .pointer (some ⟨w.heap.size + 2, 0, none⟩)] ((((w.alloc (.cells #[.string s] 9)).alloc (.cells #[.int .i64 0] 2)).alloc (.cells #[.bool false] 4)).alloc (.cells #[.bool false] 4)) fun e w' =>
      e = .returned (.tuple #[]) ∧ ReadQ w (parseNum s.data.toList) (Dur.parse s.data.toList).isSome w' := by
  have HG := Aside0.mk (((((hg.alloc (.cells #[.string s] 9)).alloc (.cells #[.int .i64 0] 2)).alloc (.cells #[.bool false] 4)).alloc (.cells #[.bool false] 4)).alloc (.cells #[.int .i64 0] 53)); clear hg
  cases hp : Dur.parse s.data.toList with
  | some n =>
    have HN := Aside0.mk (show parseNum s.data.toList = (n : Int) by rw [parseNum, hp])
    have HP := Aside0.mk hp
    clear hp
    have c1 := fun (w : World) (s : ByteArray) => conv_sb w s
    have c2 := fun (cap : Nat) => conv_bs (Lib.bytesWorld (((((w.alloc (.cells #[.string s] 9)).alloc (.cells #[.int .i64 0] 2)).alloc (.cells #[.bool false] 4)).alloc (.cells #[.bool false] 4)).alloc (.cells #[.int .i64 0] 53)) 5 s) s (w.heap.size + 1 + 1 + 1 + 1 + 1) cap (fun i hi => by
      have := conv_row (((((w.alloc (.cells #[.string s] 9)).alloc (.cells #[.int .i64 0] 2)).alloc (.cells #[.bool false] 4)).alloc (.cells #[.bool false] 4)).alloc (.cells #[.int .i64 0] 53)) s i hi
      simpa [go_sem] using this)
    go_enter Tryd.func54, Tryd.ntmps54
    go_wp2_with (go_at_call 55; go_in)
    refine (parseDur_some s hs n HP.out _ (HG.out.next (Lib.bytesWorld_below _ _ _))).mono ?_
    rintro e w1 ⟨rfl, hb0⟩
    have hb := below_step (Lib.bytesWorld_below (((((w.alloc (.cells #[.string s] 9)).alloc (.cells #[.int .i64 0] 2)).alloc (.cells #[.bool false] 4)).alloc (.cells #[.bool false] 4)).alloc (.cells #[.int .i64 0] 53)) 5 s) hb0
    clear hb0 c1 c2
    have e1 := hb.cell (p := ⟨w.heap.size + 1, 0, none⟩) (by simp)
    have e2 := hb.frozen (p := ⟨w.heap.size + 1, 0, none⟩) (by simp)
    have e3 := hb.cell (p := ⟨w.heap.size + 2, 0, none⟩) (by simp)
    have e4 := hb.frozen (p := ⟨w.heap.size + 2, 0, none⟩) (by simp)
    have e5 := hb.cell (p := ⟨w.heap.size + 3, 0, none⟩) (by simp)
    have e6 := hb.frozen (p := ⟨w.heap.size + 3, 0, none⟩) (by simp)
    have e8 := hb.cell (p := ⟨w.heap.size + 4, 0, none⟩) (by simp)
    have e9 := hb.frozen (p := ⟨w.heap.size + 4, 0, none⟩) (by simp)
    have e7 := hb.size
    simp [go_sem] at e1 e2 e3 e4 e5 e6 e7 e8 e9
    have HB := Aside0.mk hb
    clear hb
    go_wp2_with fail
    go_region
    all_goals
      go_end0
      have k1 := below_alloc (below_alloc (below_alloc (below_alloc (below_alloc (Below.refl w.heap.size w) (.cells #[.string s] 9)) (.cells #[.int .i64 0] 2)) (.cells #[.bool false] 4)) (.cells #[.bool false] 4)) (.cells #[.int .i64 0] 53)
      refine ⟨rfl, (((below_step k1 HB.out).setCell (p := ⟨w.heap.size + 1 + 1 + 1 + 1, 0, none⟩) (by simp; omega) _).drew.setCell (p := ⟨w.heap.size + 1, 0, none⟩) (by simp) _).setCell (p := ⟨w.heap.size + 2, 0, none⟩) (by simp) _, by simp [World.setCell]; omega, ?_, ?_, ?_, ?_, ?_, ?_⟩
      · simp [go_sem, e1, HN.out]
      · simp [go_sem, e2]
      · simp [go_sem, e3]
      · simp [go_sem, e4]
      · simp [go_sem, e5]
      · simp [go_sem, e6]
  | none =>
    have HN := Aside0.mk (show parseNum s.data.toList = 0 by rw [parseNum, hp])
    have HP := Aside0.mk hp
    clear hp
    have c1 := fun (w : World) (s : ByteArray) => conv_sb w s
    have c2 := fun (cap : Nat) => conv_bs (Lib.bytesWorld (((((w.alloc (.cells #[.string s] 9)).alloc (.cells #[.int .i64 0] 2)).alloc (.cells #[.bool false] 4)).alloc (.cells #[.bool false] 4)).alloc (.cells #[.int .i64 0] 53)) 5 s) s (w.heap.size + 1 + 1 + 1 + 1 + 1) cap (fun i hi => by
      have := conv_row (((((w.alloc (.cells #[.string s] 9)).alloc (.cells #[.int .i64 0] 2)).alloc (.cells #[.bool false] 4)).alloc (.cells #[.bool false] 4)).alloc (.cells #[.int .i64 0] 53)) s i hi
      simpa [go_sem] using this)
    go_enter Tryd.func54, Tryd.ntmps54
    go_wp2_with (go_at_call 55; go_in)
    refine (parseDur_none s hs HP.out _ (HG.out.next (Lib.bytesWorld_below _ _ _))).mono ?_
    rintro e w1 ⟨t, x, rfl, hb0⟩
    have hb := below_step (Lib.bytesWorld_below (((((w.alloc (.cells #[.string s] 9)).alloc (.cells #[.int .i64 0] 2)).alloc (.cells #[.bool false] 4)).alloc (.cells #[.bool false] 4)).alloc (.cells #[.int .i64 0] 53)) 5 s) hb0
    clear hb0 c1 c2
    have e1 := hb.cell (p := ⟨w.heap.size + 1, 0, none⟩) (by simp)
    have e2 := hb.frozen (p := ⟨w.heap.size + 1, 0, none⟩) (by simp)
    have e3 := hb.cell (p := ⟨w.heap.size + 2, 0, none⟩) (by simp)
    have e4 := hb.frozen (p := ⟨w.heap.size + 2, 0, none⟩) (by simp)
    have e5 := hb.cell (p := ⟨w.heap.size + 3, 0, none⟩) (by simp)
    have e6 := hb.frozen (p := ⟨w.heap.size + 3, 0, none⟩) (by simp)
    have e8 := hb.cell (p := ⟨w.heap.size + 4, 0, none⟩) (by simp)
    have e9 := hb.frozen (p := ⟨w.heap.size + 4, 0, none⟩) (by simp)
    have e7 := hb.size
    simp [go_sem] at e1 e2 e3 e4 e5 e6 e7 e8 e9
    have HB := Aside0.mk hb
    clear hb
    go_wp2_with fail
    go_region
    all_goals
      go_end0
      have k1 := below_alloc (below_alloc (below_alloc (below_alloc (below_alloc (Below.refl w.heap.size w) (.cells #[.string s] 9)) (.cells #[.int .i64 0] 2)) (.cells #[.bool false] 4)) (.cells #[.bool false] 4)) (.cells #[.int .i64 0] 53)
      refine ⟨rfl, (((below_step k1 HB.out).setCell (p := ⟨w.heap.size + 1 + 1 + 1 + 1, 0, none⟩) (by simp; omega) _).drew.setCell (p := ⟨w.heap.size + 1, 0, none⟩) (by simp) _).setCell (p := ⟨w.heap.size + 2, 0, none⟩) (by simp) _, by simp [World.setCell]; omega, ?_, ?_, ?_, ?_, ?_, ?_⟩
      · simp [go_sem, e1, HN.out]
      · simp [go_sem, e2]
      · simp [go_sem, e3]
      · simp [go_sem, e4]
      · simp [go_sem, e5]
      · simp [go_sem, e6]
set_option maxRecDepth 100000 in
theorem durationUnmarshal_calls (s : ByteArray) (hs : s.size ≤ 281474976710656) (w : World) (hg : Glob w) :
    Calls Tryd.prog 23 #[.string s] w fun e w' => e = .returned (.tuple #[.int .i64 (parseNum s.data.toList), .bool (Dur.parse s.data.toList).isSome]) ∧ Below w.heap.size w w' := by
  have HG := Aside0.mk hg; clear hg
  go_enter Tryd.func23, Tryd.ntmps23
  go_wp2_with fail
  refine (safe_calls 54 _ _ (ReadQ w (parseNum s.data.toList) (Dur.parse s.data.toList).isSome) (fun _ => by simp [go_sem]) (unm1_calls s hs w HG.out) ?_).mono ?_
  · rintro w' ⟨_, _, _, _, _, _, hc, hf⟩
    simpa using ⟨hc, hf⟩
  rintro e w2 ⟨rfl, w1, ⟨hb, hs1, hc, hf, hc2, hf2, _, _⟩, hb2⟩
  have f1 := (hb2.cell (p := ⟨w.heap.size + 1, 0, none⟩) (by simp)).trans hc
  have f2 := (hb2.frozen (p := ⟨w.heap.size + 1, 0, none⟩) (by simp)).trans hf
  have f3 := (hb2.cell (p := ⟨w.heap.size + 2, 0, none⟩) (by simp)).trans hc2
  have f4 := (hb2.frozen (p := ⟨w.heap.size + 2, 0, none⟩) (by simp)).trans hf2
  have HF := Aside0.mk (hb.trans (hb2.mono (by simp; omega)))
  clear hb hs1 hc hf hb2 hc2 hf2
  cases hp : Dur.parse s.data.toList with
  | some n =>
    have HN := Aside0.mk (show parseNum s.data.toList = (n : Int) by rw [parseNum, hp])
    simp only [hp, Option.isSome_some] at f3
    have HI := Aside0.mk (show (Dur.parse s.data.toList).isSome = true by rw [hp]; rfl)
    clear hp
    go_wp2
    refine bodyPost_ret (v := .tuple #[.int .i64 (parseNum s.data.toList), .bool true]) (by simp [results, Tryd.results23, go_sem, f1, f2, f3, f4]) rfl ⟨by rw [HI.out], ?_⟩
    exact (HF.out.setCell (p := ⟨w.heap.size + 1, 0, none⟩) (by simp) _).setCell (p := ⟨w.heap.size + 2, 0, none⟩) (by simp) _
  | none =>
    have HN := Aside0.mk (show parseNum s.data.toList = 0 by rw [parseNum, hp])
    simp only [hp, Option.isSome_none] at f3
    have HI := Aside0.mk (show (Dur.parse s.data.toList).isSome = false by rw [hp]; rfl)
    clear hp
    go_wp2
    refine bodyPost_ret (v := .tuple #[.int .i64 (parseNum s.data.toList), .bool false]) (by simp [results, Tryd.results23, go_sem, f1, f2, f3, f4, HN.out]) rfl ⟨by rw [HI.out], ?_⟩
    exact (HF.out.setCell (p := ⟨w.heap.size + 1, 0, none⟩) (by simp) _).setCell (p := ⟨w.heap.size + 2, 0, none⟩) (by simp) _

end Go.Proofs.YtaajhionmdjhjaaDoor
