/- The law FnEscapings, walked: whatever the number, it answers true. -/
import Derived.Test.YtaajhionmdjhjaaDoorTypesA
set_option linter.unusedVariables false
set_option linter.unusedSimpArgs false
namespace Go.Proofs.YtaajhionmdjhjaaDoor
open Go.RowKit

set_option maxRecDepth 100000 in
theorem escText0 (w : World) : Calls Tryd.prog 20 #[.int .i64 0] w fun e w' => e = .returned (.string ⟨#[97, 108, 108, 111, 119, 45, 117, 116, 102, 45, 56]⟩) ∧ Below w.heap.size w w' := by
  go_enter Tryd.func20, Tryd.ntmps20
  go_wp2_with fail
  refine (safe_calls 49 _ _ (TextQ w ([97, 108, 108, 111, 119, 45, 117, 116, 102, 45, 56] : List UInt8)) (fun _ => by simp [go_sem]) ?_ ?_).mono ?_
  · go_enter Tryd.func49, Tryd.ntmps49
    go_wp2
    go_end0
    exact ⟨rfl, textQ_of w _ (.cells #[.int .i64 0] 3) _ (by simp [go_sem])⟩
  · rintro w' ⟨_, _, _, _, hc, hf⟩
    simpa using ⟨hc, hf⟩
  rintro e w2 ⟨rfl, w1, ⟨hb, hs, hc, hf, _, _⟩, hb2⟩
  have f1 := (hb2.cell (p := ⟨w.heap.size + 1, 0, none⟩) (by simp)).trans hc
  have f2 := (hb2.frozen (p := ⟨w.heap.size + 1, 0, none⟩) (by simp)).trans hf
  have HF := Aside0.mk (hb.trans (hb2.mono (by simp; omega)))
  clear hb hs hc hf hb2
  go_wp2
  refine bodyPost_ret (v := .string ⟨#[97, 108, 108, 111, 119, 45, 117, 116, 102, 45, 56]⟩) (by simp [results, Tryd.results20, go_sem, f1, f2]) rfl ⟨rfl, ?_⟩
  exact HF.out.setCell (p := ⟨w.heap.size + 1, 0, none⟩) (Nat.le_succ _) _
set_option maxRecDepth 100000 in
theorem escRead0 (w : World) : Calls Tryd.prog 21 #[.string ⟨#[97, 108, 108, 111, 119, 45, 117, 116, 102, 45, 56]⟩] w fun e w' => e = .returned (.tuple #[.int .i64 0, .bool true]) ∧ Below w.heap.size w w' := by
  go_enter Tryd.func21, Tryd.ntmps21
  go_wp2
  go_ret2
  exact ⟨rfl, Below.refl _ _⟩
set_option maxHeartbeats 1000000 in
set_option maxRecDepth 100000 in
theorem escapings0 (k : Int) (h0 : 0 ≤ k) (h1 : k ≤ 255) (hk : k % 4 = 0) (w : World) (hg : Glob w) :
    Calls Tryd.prog 7 #[.int .u8 k] w fun e w' => e = .returned (.bool true) ∧ Below w.heap.size w w' := by
  have HG := Aside0.mk hg; clear hg
  go_enter Tryd.func7, Tryd.ntmps7
  go_wp2_with fail
  refine (escText0 w).mono ?_
  rintro e w1 ⟨rfl, hb1⟩
  have HB1 := Aside0.mk hb1; clear hb1
  go_wp2_with fail
  refine (escRead0 w1).mono ?_
  rintro e w2 ⟨rfl, hb2⟩
  have HB2 := Aside0.mk (below_step HB1.out hb2); clear hb2
  go_wp2_with fail
  refine (awake_calls _ (HG.out.next HB2.out)).mono ?_
  rintro e w3 ⟨rfl, hb3⟩
  have HB3 := Aside0.mk (below_step HB2.out hb3); clear hb3
  go_wp2
  go_ret
  exact ⟨rfl, below_alloc HB3.out _⟩
set_option maxRecDepth 100000 in
theorem escText1 (w : World) : Calls Tryd.prog 20 #[.int .i64 1] w fun e w' => e = .returned (.string ⟨#[117, 110, 100, 101, 114, 115, 99, 111, 114, 101, 115]⟩) ∧ Below w.heap.size w w' := by
  go_enter Tryd.func20, Tryd.ntmps20
  go_wp2_with fail
  refine (safe_calls 49 _ _ (TextQ w ([117, 110, 100, 101, 114, 115, 99, 111, 114, 101, 115] : List UInt8)) (fun _ => by simp [go_sem]) ?_ ?_).mono ?_
  · go_enter Tryd.func49, Tryd.ntmps49
    go_wp2
    go_end0
    exact ⟨rfl, textQ_of w _ (.cells #[.int .i64 1] 3) _ (by simp [go_sem])⟩
  · rintro w' ⟨_, _, _, _, hc, hf⟩
    simpa using ⟨hc, hf⟩
  rintro e w2 ⟨rfl, w1, ⟨hb, hs, hc, hf, _, _⟩, hb2⟩
  have f1 := (hb2.cell (p := ⟨w.heap.size + 1, 0, none⟩) (by simp)).trans hc
  have f2 := (hb2.frozen (p := ⟨w.heap.size + 1, 0, none⟩) (by simp)).trans hf
  have HF := Aside0.mk (hb.trans (hb2.mono (by simp; omega)))
  clear hb hs hc hf hb2
  go_wp2
  refine bodyPost_ret (v := .string ⟨#[117, 110, 100, 101, 114, 115, 99, 111, 114, 101, 115]⟩) (by simp [results, Tryd.results20, go_sem, f1, f2]) rfl ⟨rfl, ?_⟩
  exact HF.out.setCell (p := ⟨w.heap.size + 1, 0, none⟩) (Nat.le_succ _) _
set_option maxRecDepth 100000 in
theorem escRead1 (w : World) : Calls Tryd.prog 21 #[.string ⟨#[117, 110, 100, 101, 114, 115, 99, 111, 114, 101, 115]⟩] w fun e w' => e = .returned (.tuple #[.int .i64 1, .bool true]) ∧ Below w.heap.size w w' := by
  go_enter Tryd.func21, Tryd.ntmps21
  go_wp2
  go_ret2
  exact ⟨rfl, Below.refl _ _⟩
set_option maxHeartbeats 1000000 in
set_option maxRecDepth 100000 in
theorem escapings1 (k : Int) (h0 : 0 ≤ k) (h1 : k ≤ 255) (hk : k % 4 = 1) (w : World) (hg : Glob w) :
    Calls Tryd.prog 7 #[.int .u8 k] w fun e w' => e = .returned (.bool true) ∧ Below w.heap.size w w' := by
  have HG := Aside0.mk hg; clear hg
  go_enter Tryd.func7, Tryd.ntmps7
  go_wp2_with fail
  refine (escText1 w).mono ?_
  rintro e w1 ⟨rfl, hb1⟩
  have HB1 := Aside0.mk hb1; clear hb1
  go_wp2_with fail
  refine (escRead1 w1).mono ?_
  rintro e w2 ⟨rfl, hb2⟩
  have HB2 := Aside0.mk (below_step HB1.out hb2); clear hb2
  go_wp2_with fail
  refine (awake_calls _ (HG.out.next HB2.out)).mono ?_
  rintro e w3 ⟨rfl, hb3⟩
  have HB3 := Aside0.mk (below_step HB2.out hb3); clear hb3
  go_wp2
  go_ret
  exact ⟨rfl, below_alloc HB3.out _⟩
set_option maxRecDepth 100000 in
theorem escText2 (w : World) : Calls Tryd.prog 20 #[.int .i64 2] w fun e w' => e = .returned (.string ⟨#[100, 111, 116, 115]⟩) ∧ Below w.heap.size w w' := by
  go_enter Tryd.func20, Tryd.ntmps20
  go_wp2_with fail
  refine (safe_calls 49 _ _ (TextQ w ([100, 111, 116, 115] : List UInt8)) (fun _ => by simp [go_sem]) ?_ ?_).mono ?_
  · go_enter Tryd.func49, Tryd.ntmps49
    go_wp2
    go_end0
    exact ⟨rfl, textQ_of w _ (.cells #[.int .i64 2] 3) _ (by simp [go_sem])⟩
  · rintro w' ⟨_, _, _, _, hc, hf⟩
    simpa using ⟨hc, hf⟩
  rintro e w2 ⟨rfl, w1, ⟨hb, hs, hc, hf, _, _⟩, hb2⟩
  have f1 := (hb2.cell (p := ⟨w.heap.size + 1, 0, none⟩) (by simp)).trans hc
  have f2 := (hb2.frozen (p := ⟨w.heap.size + 1, 0, none⟩) (by simp)).trans hf
  have HF := Aside0.mk (hb.trans (hb2.mono (by simp; omega)))
  clear hb hs hc hf hb2
  go_wp2
  refine bodyPost_ret (v := .string ⟨#[100, 111, 116, 115]⟩) (by simp [results, Tryd.results20, go_sem, f1, f2]) rfl ⟨rfl, ?_⟩
  exact HF.out.setCell (p := ⟨w.heap.size + 1, 0, none⟩) (Nat.le_succ _) _
set_option maxRecDepth 100000 in
theorem escRead2 (w : World) : Calls Tryd.prog 21 #[.string ⟨#[100, 111, 116, 115]⟩] w fun e w' => e = .returned (.tuple #[.int .i64 2, .bool true]) ∧ Below w.heap.size w w' := by
  go_enter Tryd.func21, Tryd.ntmps21
  go_wp2
  go_ret2
  exact ⟨rfl, Below.refl _ _⟩
set_option maxHeartbeats 1000000 in
set_option maxRecDepth 100000 in
theorem escapings2 (k : Int) (h0 : 0 ≤ k) (h1 : k ≤ 255) (hk : k % 4 = 2) (w : World) (hg : Glob w) :
    Calls Tryd.prog 7 #[.int .u8 k] w fun e w' => e = .returned (.bool true) ∧ Below w.heap.size w w' := by
  have HG := Aside0.mk hg; clear hg
  go_enter Tryd.func7, Tryd.ntmps7
  go_wp2_with fail
  refine (escText2 w).mono ?_
  rintro e w1 ⟨rfl, hb1⟩
  have HB1 := Aside0.mk hb1; clear hb1
  go_wp2_with fail
  refine (escRead2 w1).mono ?_
  rintro e w2 ⟨rfl, hb2⟩
  have HB2 := Aside0.mk (below_step HB1.out hb2); clear hb2
  go_wp2_with fail
  refine (awake_calls _ (HG.out.next HB2.out)).mono ?_
  rintro e w3 ⟨rfl, hb3⟩
  have HB3 := Aside0.mk (below_step HB2.out hb3); clear hb3
  go_wp2
  go_ret
  exact ⟨rfl, below_alloc HB3.out _⟩
set_option maxRecDepth 100000 in
theorem escText3 (w : World) : Calls Tryd.prog 20 #[.int .i64 3] w fun e w' => e = .returned (.string ⟨#[118, 97, 108, 117, 101, 115]⟩) ∧ Below w.heap.size w w' := by
  go_enter Tryd.func20, Tryd.ntmps20
  go_wp2_with fail
  refine (safe_calls 49 _ _ (TextQ w ([118, 97, 108, 117, 101, 115] : List UInt8)) (fun _ => by simp [go_sem]) ?_ ?_).mono ?_
  · go_enter Tryd.func49, Tryd.ntmps49
    go_wp2
    go_end0
    exact ⟨rfl, textQ_of w _ (.cells #[.int .i64 3] 3) _ (by simp [go_sem])⟩
  · rintro w' ⟨_, _, _, _, hc, hf⟩
    simpa using ⟨hc, hf⟩
  rintro e w2 ⟨rfl, w1, ⟨hb, hs, hc, hf, _, _⟩, hb2⟩
  have f1 := (hb2.cell (p := ⟨w.heap.size + 1, 0, none⟩) (by simp)).trans hc
  have f2 := (hb2.frozen (p := ⟨w.heap.size + 1, 0, none⟩) (by simp)).trans hf
  have HF := Aside0.mk (hb.trans (hb2.mono (by simp; omega)))
  clear hb hs hc hf hb2
  go_wp2
  refine bodyPost_ret (v := .string ⟨#[118, 97, 108, 117, 101, 115]⟩) (by simp [results, Tryd.results20, go_sem, f1, f2]) rfl ⟨rfl, ?_⟩
  exact HF.out.setCell (p := ⟨w.heap.size + 1, 0, none⟩) (Nat.le_succ _) _
set_option maxRecDepth 100000 in
theorem escRead3 (w : World) : Calls Tryd.prog 21 #[.string ⟨#[118, 97, 108, 117, 101, 115]⟩] w fun e w' => e = .returned (.tuple #[.int .i64 3, .bool true]) ∧ Below w.heap.size w w' := by
  go_enter Tryd.func21, Tryd.ntmps21
  go_wp2
  go_ret2
  exact ⟨rfl, Below.refl _ _⟩
set_option maxHeartbeats 1000000 in
set_option maxRecDepth 100000 in
theorem escapings3 (k : Int) (h0 : 0 ≤ k) (h1 : k ≤ 255) (hk : k % 4 = 3) (w : World) (hg : Glob w) :
    Calls Tryd.prog 7 #[.int .u8 k] w fun e w' => e = .returned (.bool true) ∧ Below w.heap.size w w' := by
  have HG := Aside0.mk hg; clear hg
  go_enter Tryd.func7, Tryd.ntmps7
  go_wp2_with fail
  refine (escText3 w).mono ?_
  rintro e w1 ⟨rfl, hb1⟩
  have HB1 := Aside0.mk hb1; clear hb1
  go_wp2_with fail
  refine (escRead3 w1).mono ?_
  rintro e w2 ⟨rfl, hb2⟩
  have HB2 := Aside0.mk (below_step HB1.out hb2); clear hb2
  go_wp2_with fail
  refine (awake_calls _ (HG.out.next HB2.out)).mono ?_
  rintro e w3 ⟨rfl, hb3⟩
  have HB3 := Aside0.mk (below_step HB2.out hb3); clear hb3
  go_wp2
  go_ret
  exact ⟨rfl, below_alloc HB3.out _⟩
theorem escapings_calls (k : Int) (h0 : 0 ≤ k) (h1 : k ≤ 255) (w : World) (hg : Glob w) :
    Calls Tryd.prog 7 #[.int .u8 k] w fun e w' => e = .returned (.bool true) ∧ Below w.heap.size w w' := by
  rcases (show k % 4 = 0 ∨ k % 4 = 1 ∨ k % 4 = 2 ∨ k % 4 = 3 by omega) with h | h | h | h
  · exact escapings0 k h0 h1 h w hg
  · exact escapings1 k h0 h1 h w hg
  · exact escapings2 k h0 h1 h w hg
  · exact escapings3 k h0 h1 h w hg
end Go.Proofs.YtaajhionmdjhjaaDoor
