/- Durations: impl.DurationText, impl.DurationRead by their contracts. -/
import Derived.Test.YtobbfenkdnaanaaGreatDoorDurE
import Derived.RegionTactic
set_option linter.unusedVariables false
set_option linter.unusedSimpArgs false
namespace Go.Proofs.YtobbfenkdnaanaaGreatDoor
open Go.RowKit

set_option maxRecDepth 100000 in
theorem text1_calls (N : Nat) (n : Int) (s0 : ByteArray) (W : World) (h0 : 0 ≤ n) (h1 : n ≤ 9223372036854775807) (hg : Glob W) (ha : W.cell? ⟨N, 0, none⟩ = some (.int .i64 n))
    (hb : W.cell? ⟨N + 1, 0, none⟩ = some (.string s0)) (hf : W.frozen? ⟨N + 1, 0, none⟩ = false) :
    Calls Tryz.prog 112 #[.pointer (some ⟨N, 0, none⟩), .pointer (some ⟨N + 1, 0, none⟩)] W fun e w' =>
      e = .returned (.tuple #[]) ∧ ∃ w1, Below W.heap.size W w1 ∧ w' = w1.setCell ⟨N + 1, 0, none⟩ (.string ⟨(durText (n / 1000000)).toArray⟩) := by
  have HG := Aside0.mk hg; clear hg
  go_enter Tryz.func112, Tryz.ntmps112
  go_wp2_with fail
  refine (string_calls _ h0 h1 _ HG.out).mono ?_
  rintro e w1 ⟨rfl, hw⟩
  have f1 := cell_below hw hb
  have f2 := (hw.frozen (World.block_lt_of_cell? W ⟨N + 1, 0, none⟩ hb)).trans hf
  have HW := Aside0.mk hw; clear hw
  go_wp2
  go_end0
  exact ⟨rfl, w1, HW.out, rfl⟩

/-- What the call inside safe leaves: the result lies in the block behind the argument's. -/
def TextQ (w : World) (t : List UInt8) (w' : World) : Prop :=
  Below w.heap.size w w' ∧ w.heap.size + 2 < w'.heap.size ∧ w'.cell? ⟨w.heap.size + 1, 0, none⟩ = some (.string ⟨t.toArray⟩) ∧ w'.frozen? ⟨w.heap.size + 1, 0, none⟩ = false ∧ w'.cell? ⟨w.heap.size + 2, 0, none⟩ = some (.bool false) ∧ w'.frozen? ⟨w.heap.size + 2, 0, none⟩ = false
set_option maxRecDepth 100000 in
theorem durationText_calls (n : Int) (h0 : 0 ≤ n) (h1 : n ≤ 9223372036854775807) (w : World) (hg : Glob w) :
    Calls Tryz.prog 47 #[.int .i64 n] w fun e w' => e = .returned (.string ⟨(durText (n / 1000000)).toArray⟩) ∧ Below w.heap.size w w' := by
  have HG := Aside0.mk hg; clear hg
  go_enter Tryz.func47, Tryz.ntmps47
  go_wp2_with fail
  refine (safe_calls 112 _ _ (TextQ w (durText (n / 1000000))) (fun _ => by simp [go_sem]) ?_ ?_).mono ?_
  · refine (text1_calls w.heap.size n ⟨#[]⟩ _ h0 h1 (((HG.out.alloc _).alloc _).alloc _) (by simp [go_sem]) (by simp [go_sem]) (by simp [go_sem])).mono ?_
    rintro e w' ⟨rfl, w1, hb, rfl⟩
    have k1 := below_alloc (below_alloc (below_alloc (Below.refl w.heap.size w) (.cells #[.int .i64 n] 2)) (.cells #[.string ⟨#[]⟩] 9)) (.cells #[.bool false] 4)
    have e1 := hb.cell (p := ⟨w.heap.size + 1, 0, none⟩) (by simp)
    have e2 := hb.frozen (p := ⟨w.heap.size + 1, 0, none⟩) (by simp)
    have e3 := hb.cell (p := ⟨w.heap.size + 2, 0, none⟩) (by simp)
    have e4 := hb.frozen (p := ⟨w.heap.size + 2, 0, none⟩) (by simp)
    have e5 := hb.size
    simp [go_sem] at e1 e2 e3 e4 e5
    refine ⟨rfl, (below_step k1 hb).setCell (p := ⟨w.heap.size + 1, 0, none⟩) (Nat.le_succ _) _, by simp [World.setCell]; omega, ?_, ?_, ?_, ?_⟩
    · simp [go_sem, e1]
    · simp [go_sem, e2]
    · simp [go_sem, e3]
    · simp [go_sem, e4]
  · rintro w' ⟨_, _, _, _, hc, hf⟩
    simpa using ⟨hc, hf⟩
  rintro e w2 ⟨rfl, w1, ⟨hb, hs, hc, hf, _, _⟩, hb2⟩
  have f1 := (hb2.cell (p := ⟨w.heap.size + 1, 0, none⟩) (by simp)).trans hc
  have f2 := (hb2.frozen (p := ⟨w.heap.size + 1, 0, none⟩) (by simp)).trans hf
  have f3 := hb.trans (hb2.mono (by simp; omega))
  clear hb hs hc hf hb2
  have HF := Aside0.mk f3
  clear f3
  go_wp2
  refine bodyPost_ret (v := .string ⟨(durText (n / 1000000)).toArray⟩) (by simp [results, Tryz.results47, go_sem, f1, f2]) rfl ⟨rfl, ?_⟩
  exact HF.out.setCell (p := ⟨w.heap.size + 1, 0, none⟩) (Nat.le_succ _) _

/-- The number that an answer of ParseDuration bears. -/
def parseNum (l : List UInt8) : Int := match Dur.parse l with | some n => (n : Int) | none => 0
theorem parseDur_some (s : ByteArray) (hs : s.size ≤ 281474976710656) (n : Nat) (h : Dur.parse s.data.toList = some n) (w : World) (hg : Glob w) :
    Calls Tryz.prog 111 #[.string s] w fun e w' => e = .returned (.tuple #[.int .i64 (n : Int), .nilIface]) ∧ Below w.heap.size w w' := by
  refine (parseDur_calls s hs w hg).mono ?_
  rintro e w' ⟨he, hb⟩
  rw [h] at he
  exact ⟨he, hb⟩
theorem parseDur_none (s : ByteArray) (hs : s.size ≤ 281474976710656) (h : Dur.parse s.data.toList = none) (w : World) (hg : Glob w) :
    Calls Tryz.prog 111 #[.string s] w fun e w' => ∃ t x, e = .returned (.tuple #[.int .i64 0, .iface t x]) ∧ Below w.heap.size w w' := by
  refine (parseDur_calls s hs w hg).mono ?_
  rintro e w' ⟨he, hb⟩
  rw [h] at he
  obtain ⟨v, ⟨t, x, rfl⟩, rfl⟩ := he
  exact ⟨t, x, rfl, hb⟩

/-- What the call inside safe leaves: number and answer lie in the two blocks behind the argument's. -/
def ReadQ (w : World) (n : Int) (b : Bool) (w' : World) : Prop :=
  Below w.heap.size w w' ∧ w.heap.size + 3 < w'.heap.size ∧ w'.cell? ⟨w.heap.size + 1, 0, none⟩ = some (.int .i64 n) ∧ w'.frozen? ⟨w.heap.size + 1, 0, none⟩ = false ∧ w'.cell? ⟨w.heap.size + 2, 0, none⟩ = some (.bool b) ∧ w'.frozen? ⟨w.heap.size + 2, 0, none⟩ = false ∧
    w'.cell? ⟨w.heap.size + 3, 0, none⟩ = some (.bool false) ∧ w'.frozen? ⟨w.heap.size + 3, 0, none⟩ = false
set_option maxRecDepth 100000 in
theorem read1_calls (s : ByteArray) (hs : s.size ≤ 281474976710656) (w : World) (hg : Glob w) :
    Calls Tryz.prog 110 #[.pointer (some ⟨w.heap.size, 0, none⟩), .pointer (some ⟨w.heap.size + 1, 0, none⟩), .pointer (some ⟨w.heap.size + 2, 0, none⟩)] ((((w.alloc (.cells #[.string s] 9)).alloc (.cells #[.int .i64 0] 2)).alloc (.cells #[.bool false] 4)).alloc (.cells #[.bool false] 4)) fun e w' =>
      e = .returned (.tuple #[]) ∧ ReadQ w (parseNum s.data.toList) (Dur.parse s.data.toList).isSome w' := by
  have HG := Aside0.mk ((((hg.alloc (.cells #[.string s] 9)).alloc (.cells #[.int .i64 0] 2)).alloc (.cells #[.bool false] 4)).alloc (.cells #[.bool false] 4)); clear hg
  cases hp : Dur.parse s.data.toList with
  | some n =>
    have HN := Aside0.mk (show parseNum s.data.toList = (n : Int) by rw [parseNum, hp])
    have HP := Aside0.mk hp
    clear hp
    go_enter Tryz.func110, Tryz.ntmps110
    go_wp2_with fail
    refine (parseDur_some s hs n HP.out _ HG.out).mono ?_
    rintro e w1 ⟨rfl, hb⟩
    have e1 := hb.cell (p := ⟨w.heap.size + 1, 0, none⟩) (by simp)
    have e2 := hb.frozen (p := ⟨w.heap.size + 1, 0, none⟩) (by simp)
    have e3 := hb.cell (p := ⟨w.heap.size + 2, 0, none⟩) (by simp)
    have e4 := hb.frozen (p := ⟨w.heap.size + 2, 0, none⟩) (by simp)
    have e5 := hb.cell (p := ⟨w.heap.size + 3, 0, none⟩) (by simp)
    have e6 := hb.frozen (p := ⟨w.heap.size + 3, 0, none⟩) (by simp)
    have e7 := hb.size
    simp [go_sem] at e1 e2 e3 e4 e5 e6 e7
    have HB := Aside0.mk hb
    clear hb
    go_wp2_with fail
    go_region
    all_goals
      go_end0
      have k1 := below_alloc (below_alloc (below_alloc (below_alloc (Below.refl w.heap.size w) (.cells #[.string s] 9)) (.cells #[.int .i64 0] 2)) (.cells #[.bool false] 4)) (.cells #[.bool false] 4)
      refine ⟨rfl, ((below_step k1 HB.out).drew.setCell (p := ⟨w.heap.size + 1, 0, none⟩) (by simp) _).setCell (p := ⟨w.heap.size + 2, 0, none⟩) (by simp) _, by simp [World.setCell]; omega, ?_, ?_, ?_, ?_, ?_, ?_⟩
      · simp [go_sem, e1, HN.out]
      · simp [go_sem, e2]
      · simp [go_sem, e3]
      · simp [go_sem, e4]
      · simp [go_sem, e5]
      · simp [go_sem, e6]
  | none =>
    have HN := Aside0.mk (show parseNum s.data.toList = 0 by rw [parseNum, hp])
    have HP := Aside0.mk hp
    clear hp
    go_enter Tryz.func110, Tryz.ntmps110
    go_wp2_with fail
    refine (parseDur_none s hs HP.out _ HG.out).mono ?_
    rintro e w1 ⟨t, x, rfl, hb⟩
    have e1 := hb.cell (p := ⟨w.heap.size + 1, 0, none⟩) (by simp)
    have e2 := hb.frozen (p := ⟨w.heap.size + 1, 0, none⟩) (by simp)
    have e3 := hb.cell (p := ⟨w.heap.size + 2, 0, none⟩) (by simp)
    have e4 := hb.frozen (p := ⟨w.heap.size + 2, 0, none⟩) (by simp)
    have e5 := hb.cell (p := ⟨w.heap.size + 3, 0, none⟩) (by simp)
    have e6 := hb.frozen (p := ⟨w.heap.size + 3, 0, none⟩) (by simp)
    have e7 := hb.size
    simp [go_sem] at e1 e2 e3 e4 e5 e6 e7
    have HB := Aside0.mk hb
    clear hb
    go_wp2_with fail
    go_region
    all_goals
      go_end0
      have k1 := below_alloc (below_alloc (below_alloc (below_alloc (Below.refl w.heap.size w) (.cells #[.string s] 9)) (.cells #[.int .i64 0] 2)) (.cells #[.bool false] 4)) (.cells #[.bool false] 4)
      refine ⟨rfl, ((below_step k1 HB.out).drew.setCell (p := ⟨w.heap.size + 1, 0, none⟩) (by simp) _).setCell (p := ⟨w.heap.size + 2, 0, none⟩) (by simp) _, by simp [World.setCell]; omega, ?_, ?_, ?_, ?_, ?_, ?_⟩
      · simp [go_sem, e1, HN.out]
      · simp [go_sem, e2]
      · simp [go_sem, e3]
      · simp [go_sem, e4]
      · simp [go_sem, e5]
      · simp [go_sem, e6]

/-- What impl.DurationRead answers. -/
def durRead (l : List UInt8) : Int × Bool := (parseNum l, (Dur.parse l).isSome)
set_option maxRecDepth 100000 in
theorem durationRead_calls (s : ByteArray) (hs : s.size ≤ 281474976710656) (w : World) (hg : Glob w) :
    Calls Tryz.prog 46 #[.string s] w fun e w' => e = .returned (.tuple #[.int .i64 (parseNum s.data.toList), .bool (Dur.parse s.data.toList).isSome]) ∧ Below w.heap.size w w' := by
  have HG := Aside0.mk hg; clear hg
  go_enter Tryz.func46, Tryz.ntmps46
  go_wp2_with fail
  refine (safe_calls 110 _ _ (ReadQ w (parseNum s.data.toList) (Dur.parse s.data.toList).isSome) (fun _ => by simp [go_sem]) (read1_calls s hs w HG.out) ?_).mono ?_
  · rintro w' ⟨_, _, _, _, _, _, hc, hf⟩
    simpa using ⟨hc, hf⟩
  rintro e w2 ⟨rfl, w1, ⟨hb, hs1, hc, hf, hc2, hf2, _, _⟩, hb2⟩
  have f1 := (hb2.cell (p := ⟨w.heap.size + 1, 0, none⟩) (by simp)).trans hc
  have f2 := (hb2.frozen (p := ⟨w.heap.size + 1, 0, none⟩) (by simp)).trans hf
  have f3 := (hb2.cell (p := ⟨w.heap.size + 2, 0, none⟩) (by simp)).trans hc2
  have f4 := (hb2.frozen (p := ⟨w.heap.size + 2, 0, none⟩) (by simp)).trans hf2
  have HF := Aside0.mk (hb.trans (hb2.mono (by simp; omega)))
  clear hb hs1 hc hf hb2 hc2 hf2
  cases hp : Dur.parse s.data.toList with
  | some n =>
    have HN := Aside0.mk (show parseNum s.data.toList = (n : Int) by rw [parseNum, hp])
    simp only [hp, Option.isSome_some] at f3
    have HI := Aside0.mk (show (Dur.parse s.data.toList).isSome = true by rw [hp]; rfl)
    clear hp
    go_wp2
    refine bodyPost_ret (v := .tuple #[.int .i64 (parseNum s.data.toList), .bool true]) (by simp [results, Tryz.results46, go_sem, f1, f2, f3, f4]) rfl ⟨by rw [HI.out], ?_⟩
    exact (HF.out.setCell (p := ⟨w.heap.size + 1, 0, none⟩) (by simp) _).setCell (p := ⟨w.heap.size + 2, 0, none⟩) (by simp) _
  | none =>
    have HN := Aside0.mk (show parseNum s.data.toList = 0 by rw [parseNum, hp])
    simp only [hp, Option.isSome_none] at f3
    have HI := Aside0.mk (show (Dur.parse s.data.toList).isSome = false by rw [hp]; rfl)
    clear hp
    go_wp2
    refine bodyPost_ret (v := .tuple #[.int .i64 (parseNum s.data.toList), .bool false]) (by simp [results, Tryz.results46, go_sem, f1, f2, f3, f4, HN.out]) rfl ⟨by rw [HI.out], ?_⟩
    exact (HF.out.setCell (p := ⟨w.heap.size + 1, 0, none⟩) (by simp) _).setCell (p := ⟨w.heap.size + 2, 0, none⟩) (by simp) _

theorem awake_parse : Dur.parse [49, 104, 51, 48, 109] = some 5400000000000 := by decide +kernel
theorem awake_text : durText (5400000000000 / 1000000) = [49, 104, 51, 48, 109] := by decide +kernel
set_option maxRecDepth 100000 in
theorem awake_calls (w : World) (hg : Glob w) : Calls Tryz.prog 12 #[] w fun e w' => e = .returned (.bool true) ∧ Below w.heap.size w w' := by
  have HG := Aside0.mk hg; clear hg
  go_enter Tryz.func12, Tryz.ntmps12
  go_wp2_with fail
  refine (durationRead_calls _ (by decide) _ HG.out).mono ?_
  rintro e w1 ⟨rfl, hb⟩
  have HB := Aside0.mk hb
  clear hb
  have h1 : parseNum [49, 104, 51, 48, 109] = 5400000000000 := by rw [parseNum, awake_parse]; rfl
  have h2 : (Dur.parse [49, 104, 51, 48, 109]).isSome = true := by rw [awake_parse]; rfl
  simp only [h1, h2]
  go_wp2_with fail
  refine (durationText_calls 5400000000000 (by decide) (by decide) _ (HG.out.next HB.out)).mono ?_
  rintro e w2 ⟨rfl, hb2⟩
  rw [awake_text]
  have HB2 := Aside0.mk (below_step HB.out hb2)
  clear hb2
  go_wp2
  go_ret
  exact ⟨rfl, HB2.out⟩
end Go.Proofs.YtobbfenkdnaanaaGreatDoor
