/- Durations: impl.DurationMarshal by its contract. -/
import Derived.Test.YtaajhionmdjhjaaDoorWaysB
set_option linter.unusedVariables false
set_option linter.unusedSimpArgs false
namespace Go.Proofs.YtaajhionmdjhjaaDoor
open Go.RowKit

/-- What the marshalling call inside safe leaves. -/
def MarQ (w : World) (t : ByteArray) (w' : World) : Prop :=
  Below w.heap.size w w' ∧ w.heap.size + 3 < w'.heap.size ∧ w'.cell? ⟨w.heap.size + 1, 0, none⟩ = some (.string t) ∧ w'.frozen? ⟨w.heap.size + 1, 0, none⟩ = false ∧ w'.cell? ⟨w.heap.size + 2, 0, none⟩ = some (.bool true) ∧ w'.frozen? ⟨w.heap.size + 2, 0, none⟩ = false ∧
    w'.cell? ⟨w.heap.size + 3, 0, none⟩ = some (.bool false) ∧ w'.frozen? ⟨w.heap.size + 3, 0, none⟩ = false

theorem string_of (n : Int) (h0 : 0 ≤ n) (h1 : n ≤ 9223372036854775807) (s : ByteArray) (hs : Aside0 (s = ⟨(durText (n / 1000000)).toArray⟩)) (w : World) (hg : Glob w) :
    Calls Tryd.prog 36 #[.int .i64 n] w fun e w' => e = .returned (.string s) ∧ Below w.heap.size w w' := by
  rw [hs.out]; exact string_calls n h0 h1 w hg

set_option maxHeartbeats 1000000 in
set_option maxRecDepth 100000 in
theorem mar1_calls (n : Int) (h0 : 0 ≤ n) (h1 : n ≤ 9223372036854775807) (s : ByteArray) (hs : Aside0 (s = ⟨(durText (n / 1000000)).toArray⟩)) (w : World) (hg : Glob w) :
    Calls Tryd.prog 56 #[.pointer (some ⟨w.heap.size, 0, none⟩), .pointer (some ⟨w.heap.size + 1, 0, none⟩), .pointer (some ⟨w.heap.size + 2, 0, none⟩)] ((((w.alloc (.cells #[.int .i64 n] 2)).alloc (.cells #[.string ⟨#[]⟩] 9)).alloc (.cells #[.bool false] 4)).alloc (.cells #[.bool false] 4)) fun e w' =>
      e = .returned (.tuple #[]) ∧ MarQ w s w' := by
  have HS := Aside0.mk hg.size
  have HG := Aside0.mk (((((hg.alloc (.cells #[.int .i64 n] 2)).alloc (.cells #[.string ⟨#[]⟩] 9)).alloc (.cells #[.bool false] 4)).alloc (.cells #[.bool false] 4)).alloc (.cells #[.int .i64 n] 53)); clear hg
  have c1 := fun (w : World) (s : ByteArray) => conv_sb w s
  go_enter Tryd.func56, Tryd.ntmps56
  go_wp2_with (go_at_call 57; go_in)
  refine (string_of n h0 h1 s hs _ HG.out).mono ?_
  rintro e w1 ⟨rfl, hb⟩
  have HB := Aside0.mk hb
  clear hb
  go_wp2_with fail
  have hb := below_step HB.out (Lib.bytesWorld_below w1 5 s)
  have hz : w1.heap.size < (Lib.bytesWorld w1 5 s).heap.size := by rw [Lib.bytesWorld_size]; omega
  have c3 := conv_row w1 s
  generalize Lib.bytesWorld w1 5 s = w2 at *
  generalize grownCap w1 s.size 0 5 = cap at *
  have hsz := HB.out.size
  clear c1 HB
  generalize w1.heap.size = b1 at *
  have e1 := hb.cell (p := ⟨w.heap.size + 1, 0, none⟩) (by simp)
  have e2 := hb.frozen (p := ⟨w.heap.size + 1, 0, none⟩) (by simp)
  have e3 := hb.cell (p := ⟨w.heap.size + 2, 0, none⟩) (by simp)
  have e4 := hb.frozen (p := ⟨w.heap.size + 2, 0, none⟩) (by simp)
  have e5 := hb.cell (p := ⟨w.heap.size + 3, 0, none⟩) (by simp)
  have e6 := hb.frozen (p := ⟨w.heap.size + 3, 0, none⟩) (by simp)
  have e7 := hb.size
  simp [go_sem] at e1 e2 e3 e4 e5 e6 e7 hsz
  have HB := Aside0.mk hb
  clear hb
  have d1 := conv_bs w2 s b1 cap c3
  have d2 := conv_bs w2.drew s b1 cap (fun i hi => (c3 i hi))
  clear c3
  go_region
  all_goals
    go_end0
    have k1 := below_alloc (below_alloc (below_alloc (below_alloc (below_alloc (Below.refl w.heap.size w) (.cells #[.int .i64 n] 2)) (.cells #[.string ⟨#[]⟩] 9)) (.cells #[.bool false] 4)) (.cells #[.bool false] 4)) (.cells #[.int .i64 n] 53)
    refine ⟨rfl, ((below_step k1 HB.out).drew.setCell (p := ⟨w.heap.size + 1, 0, none⟩) (by simp) _).setCell (p := ⟨w.heap.size + 2, 0, none⟩) (by simp) _, by simp [World.setCell]; omega, ?_, ?_, ?_, ?_, ?_, ?_⟩
    · simp [go_sem, e1]
    · simp [go_sem, e2]
    · simp [go_sem, e3]
    · simp [go_sem, e4]
    · simp [go_sem, e5]
    · simp [go_sem, e6]
set_option maxRecDepth 100000 in
theorem durationMarshal_calls (n : Int) (h0 : 0 ≤ n) (h1 : n ≤ 9223372036854775807) (s : ByteArray) (hs : Aside0 (s = ⟨(durText (n / 1000000)).toArray⟩)) (w : World) (hg : Glob w) :
    Calls Tryd.prog 24 #[.int .i64 n] w fun e w' => e = .returned (.tuple #[.string s, .bool true]) ∧ Below w.heap.size w w' := by
  have HG := Aside0.mk hg; clear hg
  go_enter Tryd.func24, Tryd.ntmps24
  go_wp2_with fail
  refine (safe_calls 56 _ _ (MarQ w s) (fun _ => by simp [go_sem]) (mar1_calls n h0 h1 s hs w HG.out) ?_).mono ?_
  · rintro w' ⟨_, _, _, _, _, _, hc, hf⟩
    simpa using ⟨hc, hf⟩
  rintro e w2 ⟨rfl, w1, ⟨hb, hs1, hc, hf, hc2, hf2, _, _⟩, hb2⟩
  have f1 := (hb2.cell (p := ⟨w.heap.size + 1, 0, none⟩) (by simp)).trans hc
  have f2 := (hb2.frozen (p := ⟨w.heap.size + 1, 0, none⟩) (by simp)).trans hf
  have f3 := (hb2.cell (p := ⟨w.heap.size + 2, 0, none⟩) (by simp)).trans hc2
  have f4 := (hb2.frozen (p := ⟨w.heap.size + 2, 0, none⟩) (by simp)).trans hf2
  have HF := Aside0.mk (hb.trans (hb2.mono (by simp; omega)))
  clear hb hs1 hc hf hb2 hc2 hf2
  go_wp2
  refine bodyPost_ret (v := .tuple #[.string s, .bool true]) (by simp [results, Tryd.results24, go_sem, f1, f2, f3, f4]) rfl ⟨rfl, ?_⟩
  exact (HF.out.setCell (p := ⟨w.heap.size + 1, 0, none⟩) (by simp) _).setCell (p := ⟨w.heap.size + 2, 0, none⟩) (by simp) _
end Go.Proofs.YtaajhionmdjhjaaDoor
