/- The law FnTypes: the types of values have their names. -/
import Derived.Test.YtaajhionmdjhjaaDoorDurF
set_option linter.unusedVariables false
set_option linter.unusedSimpArgs false
namespace Go.Proofs.YtaajhionmdjhjaaDoor
open Go.RowKit

/-- What a call that writes one text into the second of its two cells leaves, out of the world that safe hands it. -/
theorem textQ_of (w w' : World) (o : Obj) (t : List UInt8) (hw : w' = (((w.alloc o).alloc (.cells #[.string ⟨#[]⟩] 9)).alloc (.cells #[.bool false] 4)).setCell ⟨w.heap.size + 1, 0, none⟩ (.string ⟨t.toArray⟩)) : TextQ w t w' := by
  subst hw
  have k1 := below_alloc (below_alloc (below_alloc (Below.refl w.heap.size w) o) (.cells #[.string ⟨#[]⟩] 9)) (.cells #[.bool false] 4)
  refine ⟨k1.setCell (p := ⟨w.heap.size + 1, 0, none⟩) (Nat.le_succ _) _, by simp [World.setCell], ?_, ?_, ?_, ?_⟩ <;> simp [go_sem]

set_option maxRecDepth 100000 in
theorem typeText0 (w : World) : Calls Tryd.prog 17 #[.int .i64 0] w fun e w' => e = .returned (.string ⟨([60, 86, 97, 108, 78, 111, 110, 101, 62] : List UInt8).toArray⟩) ∧ Below w.heap.size w w' := by
  go_enter Tryd.func17, Tryd.ntmps17
  go_wp2_with fail
  refine (safe_calls 38 _ _ (TextQ w ([60, 86, 97, 108, 78, 111, 110, 101, 62] : List UInt8)) (fun _ => by simp [go_sem]) ?_ ?_).mono ?_
  · go_enter Tryd.func38, Tryd.ntmps38
    go_wp2
    go_end0
    exact ⟨rfl, textQ_of w _ (.cells #[.int .i64 0] 3) _ (by simp [go_sem])⟩
  · rintro w' ⟨_, _, _, _, hc, hf⟩
    simpa using ⟨hc, hf⟩
  rintro e w2 ⟨rfl, w1, ⟨hb, hs, hc, hf, _, _⟩, hb2⟩
  have f1 := (hb2.cell (p := ⟨w.heap.size + 1, 0, none⟩) (by simp)).trans hc
  have f2 := (hb2.frozen (p := ⟨w.heap.size + 1, 0, none⟩) (by simp)).trans hf
  have HF := Aside0.mk (hb.trans (hb2.mono (by simp; omega)))
  clear hb hs hc hf hb2
  go_wp2
  refine bodyPost_ret (v := .string ⟨([60, 86, 97, 108, 78, 111, 110, 101, 62] : List UInt8).toArray⟩) (by simp [results, Tryd.results17, go_sem, f1, f2]) rfl ⟨rfl, ?_⟩
  exact HF.out.setCell (p := ⟨w.heap.size + 1, 0, none⟩) (Nat.le_succ _) _
set_option maxRecDepth 100000 in
theorem typeText1 (w : World) : Calls Tryd.prog 17 #[.int .i64 1] w fun e w' => e = .returned (.string ⟨([115, 99, 97, 108, 97, 114] : List UInt8).toArray⟩) ∧ Below w.heap.size w w' := by
  go_enter Tryd.func17, Tryd.ntmps17
  go_wp2_with fail
  refine (safe_calls 38 _ _ (TextQ w ([115, 99, 97, 108, 97, 114] : List UInt8)) (fun _ => by simp [go_sem]) ?_ ?_).mono ?_
  · go_enter Tryd.func38, Tryd.ntmps38
    go_wp2
    go_end0
    exact ⟨rfl, textQ_of w _ (.cells #[.int .i64 1] 3) _ (by simp [go_sem])⟩
  · rintro w' ⟨_, _, _, _, hc, hf⟩
    simpa using ⟨hc, hf⟩
  rintro e w2 ⟨rfl, w1, ⟨hb, hs, hc, hf, _, _⟩, hb2⟩
  have f1 := (hb2.cell (p := ⟨w.heap.size + 1, 0, none⟩) (by simp)).trans hc
  have f2 := (hb2.frozen (p := ⟨w.heap.size + 1, 0, none⟩) (by simp)).trans hf
  have HF := Aside0.mk (hb.trans (hb2.mono (by simp; omega)))
  clear hb hs hc hf hb2
  go_wp2
  refine bodyPost_ret (v := .string ⟨([115, 99, 97, 108, 97, 114] : List UInt8).toArray⟩) (by simp [results, Tryd.results17, go_sem, f1, f2]) rfl ⟨rfl, ?_⟩
  exact HF.out.setCell (p := ⟨w.heap.size + 1, 0, none⟩) (Nat.le_succ _) _
set_option maxRecDepth 100000 in
theorem typeText2 (w : World) : Calls Tryd.prog 17 #[.int .i64 2] w fun e w' => e = .returned (.string ⟨([118, 101, 99, 116, 111, 114] : List UInt8).toArray⟩) ∧ Below w.heap.size w w' := by
  go_enter Tryd.func17, Tryd.ntmps17
  go_wp2_with fail
  refine (safe_calls 38 _ _ (TextQ w ([118, 101, 99, 116, 111, 114] : List UInt8)) (fun _ => by simp [go_sem]) ?_ ?_).mono ?_
  · go_enter Tryd.func38, Tryd.ntmps38
    go_wp2
    go_end0
    exact ⟨rfl, textQ_of w _ (.cells #[.int .i64 2] 3) _ (by simp [go_sem])⟩
  · rintro w' ⟨_, _, _, _, hc, hf⟩
    simpa using ⟨hc, hf⟩
  rintro e w2 ⟨rfl, w1, ⟨hb, hs, hc, hf, _, _⟩, hb2⟩
  have f1 := (hb2.cell (p := ⟨w.heap.size + 1, 0, none⟩) (by simp)).trans hc
  have f2 := (hb2.frozen (p := ⟨w.heap.size + 1, 0, none⟩) (by simp)).trans hf
  have HF := Aside0.mk (hb.trans (hb2.mono (by simp; omega)))
  clear hb hs hc hf hb2
  go_wp2
  refine bodyPost_ret (v := .string ⟨([118, 101, 99, 116, 111, 114] : List UInt8).toArray⟩) (by simp [results, Tryd.results17, go_sem, f1, f2]) rfl ⟨rfl, ?_⟩
  exact HF.out.setCell (p := ⟨w.heap.size + 1, 0, none⟩) (Nat.le_succ _) _
set_option maxRecDepth 100000 in
theorem typeText3 (w : World) : Calls Tryd.prog 17 #[.int .i64 3] w fun e w' => e = .returned (.string ⟨([109, 97, 116, 114, 105, 120] : List UInt8).toArray⟩) ∧ Below w.heap.size w w' := by
  go_enter Tryd.func17, Tryd.ntmps17
  go_wp2_with fail
  refine (safe_calls 38 _ _ (TextQ w ([109, 97, 116, 114, 105, 120] : List UInt8)) (fun _ => by simp [go_sem]) ?_ ?_).mono ?_
  · go_enter Tryd.func38, Tryd.ntmps38
    go_wp2
    go_end0
    exact ⟨rfl, textQ_of w _ (.cells #[.int .i64 3] 3) _ (by simp [go_sem])⟩
  · rintro w' ⟨_, _, _, _, hc, hf⟩
    simpa using ⟨hc, hf⟩
  rintro e w2 ⟨rfl, w1, ⟨hb, hs, hc, hf, _, _⟩, hb2⟩
  have f1 := (hb2.cell (p := ⟨w.heap.size + 1, 0, none⟩) (by simp)).trans hc
  have f2 := (hb2.frozen (p := ⟨w.heap.size + 1, 0, none⟩) (by simp)).trans hf
  have HF := Aside0.mk (hb.trans (hb2.mono (by simp; omega)))
  clear hb hs hc hf hb2
  go_wp2
  refine bodyPost_ret (v := .string ⟨([109, 97, 116, 114, 105, 120] : List UInt8).toArray⟩) (by simp [results, Tryd.results17, go_sem, f1, f2]) rfl ⟨rfl, ?_⟩
  exact HF.out.setCell (p := ⟨w.heap.size + 1, 0, none⟩) (Nat.le_succ _) _
set_option maxRecDepth 100000 in
theorem typeText4 (w : World) : Calls Tryd.prog 17 #[.int .i64 4] w fun e w' => e = .returned (.string ⟨([115, 116, 114, 105, 110, 103] : List UInt8).toArray⟩) ∧ Below w.heap.size w w' := by
  go_enter Tryd.func17, Tryd.ntmps17
  go_wp2_with fail
  refine (safe_calls 38 _ _ (TextQ w ([115, 116, 114, 105, 110, 103] : List UInt8)) (fun _ => by simp [go_sem]) ?_ ?_).mono ?_
  · go_enter Tryd.func38, Tryd.ntmps38
    go_wp2
    go_end0
    exact ⟨rfl, textQ_of w _ (.cells #[.int .i64 4] 3) _ (by simp [go_sem])⟩
  · rintro w' ⟨_, _, _, _, hc, hf⟩
    simpa using ⟨hc, hf⟩
  rintro e w2 ⟨rfl, w1, ⟨hb, hs, hc, hf, _, _⟩, hb2⟩
  have f1 := (hb2.cell (p := ⟨w.heap.size + 1, 0, none⟩) (by simp)).trans hc
  have f2 := (hb2.frozen (p := ⟨w.heap.size + 1, 0, none⟩) (by simp)).trans hf
  have HF := Aside0.mk (hb.trans (hb2.mono (by simp; omega)))
  clear hb hs hc hf hb2
  go_wp2
  refine bodyPost_ret (v := .string ⟨([115, 116, 114, 105, 110, 103] : List UInt8).toArray⟩) (by simp [results, Tryd.results17, go_sem, f1, f2]) rfl ⟨rfl, ?_⟩
  exact HF.out.setCell (p := ⟨w.heap.size + 1, 0, none⟩) (Nat.le_succ _) _
end Go.Proofs.YtaajhionmdjhjaaDoor
