/- The law FnEscape, walked. -/
import Derived.Test.YtaajhionmdjhjaaDoorEscD
import Derived.Test.YtaajhionmdjhjaaDoorNamC
set_option linter.unusedVariables false
set_option linter.unusedSimpArgs false
namespace Go.Proofs.YtaajhionmdjhjaaDoor
open Go.RowKit

/-- What escaping gives. -/
noncomputable def escOut (k : Nat) (s : ByteArray) : ByteArray := if k = 0 ∨ s.size = 0 ∨ (k ≠ 2 ∧ legB s true = true) then s else ⟨(escT k s).toArray⟩

theorem legB_iff {s : ByteArray} {m : Bool} (h : legB s m ≠ true) : ¬ Legal s m := fun hl => h (legB_true hl)
theorem ctz_next {w w' : World} (h : Ctz w) (hb : Below w.heap.size w w') : Ctz w' := cell_below hb h

set_option maxHeartbeats 1000000 in
set_option maxRecDepth 100000 in
theorem escapeName_calls (k : Nat) (hk : k ≤ 3) (s : ByteArray) (hs : s.size ≤ 200) (w : World) (hC : Ctz w) (h7 : 7 ≤ w.heap.size) :
    Calls Tryd.prog 64 #[.string s, .int .i64 (k : Int)] w fun e w' => e = .returned (.string (escOut k s)) ∧ Below w.heap.size w w' := by
  by_cases he : s.size = 0
  · have HE := Aside0.mk (show escOut k s = s by unfold escOut; rw [if_pos (.inr (.inl he))])
    have c0 : ((s.size : Int) == 0) = true := by simp [he]
    clear he hC
    go_enter Tryd.func64, Tryd.ntmps64
    go_wp2
    go_ret
    exact ⟨by rw [HE.out]; rfl, Below.refl _ _⟩
  · have c0 : ((s.size : Int) == 0) = false := beq_eq_false_iff_ne.2 (by omega)
    rcases (show k = 0 ∨ k = 1 ∨ k = 2 ∨ k = 3 by omega) with rfl | rfl | rfl | rfl
    · have HE := Aside0.mk (show escOut 0 s = s by unfold escOut; rw [if_pos (.inl rfl)])
      show Calls Tryd.prog 64 #[.string s, .int .i64 0] w _
      clear he hC
      go_enter Tryd.func64, Tryd.ntmps64
      go_wp2
      go_ret
      exact ⟨by rw [HE.out]; rfl, below_alloc (Below.refl _ _) _⟩
    · by_cases hl : legB s true = true
      · have HE := Aside0.mk (show escOut 1 s = s by unfold escOut; rw [if_pos (.inr (.inr ⟨by decide, hl⟩))])
        have HL := Aside0.mk hl
        show Calls Tryd.prog 64 #[.string s, .int .i64 1] w _
        clear he hC hl
        go_enter Tryd.func64, Tryd.ntmps64
        go_wp2_with (go_at_call 60; refine (metricLegacy_calls s (by omega) _).mono ?_; rintro e w1 ⟨rfl, hb⟩; rw [HL.out])
        go_ret
        exact ⟨by rw [HE.out]; rfl, below_step (below_alloc (Below.refl _ _) _) hb⟩
      · rw [show escOut 1 s = ⟨(escT 1 s).toArray⟩ by unfold escOut; rw [if_neg (fun h => h.elim (fun h => absurd h (by decide)) (fun h => h.elim (fun h => he h) (fun h => hl h.2)))]]
        exact escape1_calls s hs he (legB_iff hl) w
    · rw [show escOut 2 s = ⟨(escT 2 s).toArray⟩ by unfold escOut; rw [if_neg (fun h => h.elim (fun h => absurd h (by decide)) (fun h => h.elim (fun h => he h) (fun h => h.1 rfl)))]]
      exact escape2_calls s hs he w
    · by_cases hl : legB s true = true
      · have HE := Aside0.mk (show escOut 3 s = s by unfold escOut; rw [if_pos (.inr (.inr ⟨by decide, hl⟩))])
        have HL := Aside0.mk hl
        show Calls Tryd.prog 64 #[.string s, .int .i64 3] w _
        clear he hC hl
        go_enter Tryd.func64, Tryd.ntmps64
        go_wp2_with (go_at_call 60; refine (metricLegacy_calls s (by omega) _).mono ?_; rintro e w1 ⟨rfl, hb⟩; rw [HL.out])
        go_ret
        exact ⟨by rw [HE.out]; rfl, below_step (below_alloc (Below.refl _ _) _) hb⟩
      · rw [show escOut 3 s = ⟨(escT 3 s).toArray⟩ by unfold escOut; rw [if_neg (fun h => h.elim (fun h => absurd h (by decide)) (fun h => h.elim (fun h => he h) (fun h => hl h.2)))]]
        exact escape3_calls s hs he (legB_iff hl) w hC h7

set_option maxHeartbeats 1000000 in
set_option maxRecDepth 100000 in
theorem specEscape_calls (k : Nat) (hk : k ≤ 3) (s : ByteArray) (hs : s.size ≤ 200) (w : World) (hC : Ctz w) (h7 : 7 ≤ w.heap.size) :
    Calls Tryd.prog 29 #[.string s, .int .i64 (k : Int)] w fun e w' => e = .returned (.string (escOut k s)) ∧ Below w.heap.size w w' := by
  rcases (show k = 0 ∨ k = 1 ∨ k = 2 ∨ k = 3 by omega) with rfl | rfl | rfl | rfl
  · have HE := Aside0.mk (show escOut 0 s = s by unfold escOut; rw [if_pos (.inl rfl)])
    show Calls Tryd.prog 29 #[.string s, .int .i64 0] w _
    clear hC
    go_enter Tryd.func29, Tryd.ntmps29
    go_wp2
    go_ret
    exact ⟨by rw [HE.out]; rfl, Below.refl _ _⟩
  all_goals
    by_cases he : s.size = 0
  · have HE := Aside0.mk (show escOut 1 s = s by unfold escOut; rw [if_pos (.inr (.inl he))])
    have HL := Aside0.mk (legB_empty (m := true) he)
    have hz : s.toList.isEmpty = true := by rw [empty_of s]; exact decide_eq_true he
    show Calls Tryd.prog 29 #[.string s, .int .i64 1] w _
    clear he hC
    go_enter Tryd.func29, Tryd.ntmps29
    go_wp2_with (go_at_call 27; refine (legacy_true s (by omega) _).mono ?_; rintro e w1 ⟨rfl, hb⟩; rw [HL.out])
    go_ret
    exact ⟨by rw [HE.out]; rfl, hb⟩
  · by_cases hl : legB s true = true
    · have HE := Aside0.mk (show escOut 1 s = s by unfold escOut; rw [if_pos (.inr (.inr ⟨by decide, hl⟩))])
      have HL := Aside0.mk hl
      show Calls Tryd.prog 29 #[.string s, .int .i64 1] w _
      clear he hC hl
      go_enter Tryd.func29, Tryd.ntmps29
      go_wp2_with (go_at_call 27; refine (legacy_true s (by omega) _).mono ?_; rintro e w1 ⟨rfl, hb⟩; rw [HL.out])
      go_ret
      exact ⟨by rw [HE.out]; rfl, hb⟩
    · rw [show escOut 1 s = ⟨(escT 1 s).toArray⟩ by unfold escOut; rw [if_neg (fun h => h.elim (fun h => absurd h (by decide)) (fun h => h.elim (fun h => he h) (fun h => hl h.2)))]]
      exact specEsc1_calls s hs he (legB_iff hl) w hC h7
  · have HE := Aside0.mk (show escOut 2 s = s by unfold escOut; rw [if_pos (.inr (.inl he))])
    have hz : s.toList.isEmpty = true := by rw [empty_of s]; exact decide_eq_true he
    show Calls Tryd.prog 29 #[.string s, .int .i64 2] w _
    clear he hC
    go_enter Tryd.func29, Tryd.ntmps29
    go_wp2
    go_ret
    exact ⟨by rw [HE.out]; rfl, Below.refl _ _⟩
  · rw [show escOut 2 s = ⟨(escT 2 s).toArray⟩ by unfold escOut; rw [if_neg (fun h => h.elim (fun h => absurd h (by decide)) (fun h => h.elim (fun h => he h) (fun h => h.1 rfl)))]]
    exact specEsc2_calls s hs he w hC h7
  · have HE := Aside0.mk (show escOut 3 s = s by unfold escOut; rw [if_pos (.inr (.inl he))])
    have HL := Aside0.mk (legB_empty (m := true) he)
    have hz : s.toList.isEmpty = true := by rw [empty_of s]; exact decide_eq_true he
    show Calls Tryd.prog 29 #[.string s, .int .i64 3] w _
    clear he hC
    go_enter Tryd.func29, Tryd.ntmps29
    go_wp2_with (go_at_call 27; refine (legacy_true s (by omega) _).mono ?_; rintro e w1 ⟨rfl, hb⟩; rw [HL.out])
    go_ret
    exact ⟨by rw [HE.out]; rfl, hb⟩
  · by_cases hl : legB s true = true
    · have HE := Aside0.mk (show escOut 3 s = s by unfold escOut; rw [if_pos (.inr (.inr ⟨by decide, hl⟩))])
      have HL := Aside0.mk hl
      show Calls Tryd.prog 29 #[.string s, .int .i64 3] w _
      clear he hC hl
      go_enter Tryd.func29, Tryd.ntmps29
      go_wp2_with (go_at_call 27; refine (legacy_true s (by omega) _).mono ?_; rintro e w1 ⟨rfl, hb⟩; rw [HL.out])
      go_ret
      exact ⟨by rw [HE.out]; rfl, hb⟩
    · rw [show escOut 3 s = ⟨(escT 3 s).toArray⟩ by unfold escOut; rw [if_neg (fun h => h.elim (fun h => absurd h (by decide)) (fun h => h.elim (fun h => he h) (fun h => hl h.2)))]]
      exact specEsc3_calls s hs he (legB_iff hl) w hC h7

/-- What the call inside safe leaves: the result lies two blocks behind the argument's. -/
def TextR (w : World) (t : ByteArray) (w' : World) : Prop :=
  Below w.heap.size w w' ∧ w.heap.size + 3 < w'.heap.size ∧ w'.cell? ⟨w.heap.size + 2, 0, none⟩ = some (.string t) ∧ w'.frozen? ⟨w.heap.size + 2, 0, none⟩ = false ∧ w'.cell? ⟨w.heap.size + 3, 0, none⟩ = some (.bool false) ∧ w'.frozen? ⟨w.heap.size + 3, 0, none⟩ = false

set_option maxHeartbeats 1000000 in
set_option maxRecDepth 100000 in
theorem esc1_calls (k : Nat) (hk : k ≤ 3) (s : ByteArray) (hs : s.size ≤ 200) (w : World) (hC : Ctz w) (h7 : 7 ≤ w.heap.size) :
    Calls Tryd.prog 63 #[.pointer (some ⟨w.heap.size, 0, none⟩), .pointer (some ⟨w.heap.size + 1, 0, none⟩), .pointer (some ⟨w.heap.size + 2, 0, none⟩)] ((((w.alloc (.cells #[.string s] 9)).alloc (.cells #[.int .i64 (k : Int)] 3)).alloc (.cells #[.string ⟨#[]⟩] 9)).alloc (.cells #[.bool false] 4)) fun e w' =>
      e = .returned (.tuple #[]) ∧ TextR w (escOut k s) w' := by
  have K1 := Aside0.mk (below_alloc (below_alloc (below_alloc (below_alloc (Below.refl w.heap.size w) (.cells #[.string s] 9)) (.cells #[.int .i64 (k : Int)] 3)) (.cells #[.string ⟨#[]⟩] 9)) (.cells #[.bool false] 4))
  have HC := Aside0.mk hC
  clear hC
  go_enter Tryd.func63, Tryd.ntmps63
  go_wp2_with fail
  refine (escapeName_calls k hk s hs _ (ctz_next HC.out K1.out) (Nat.le_trans h7 K1.out.size)).mono ?_
  rintro e w1 ⟨rfl, hb⟩
  have e1 := hb.cell (p := ⟨w.heap.size + 2, 0, none⟩) (by simp)
  have e2 := hb.frozen (p := ⟨w.heap.size + 2, 0, none⟩) (by simp)
  have e3 := hb.cell (p := ⟨w.heap.size + 3, 0, none⟩) (by simp)
  have e4 := hb.frozen (p := ⟨w.heap.size + 3, 0, none⟩) (by simp)
  have e5 := hb.size
  simp [go_sem] at e1 e2 e3 e4 e5
  have HB := Aside0.mk hb
  clear hb
  go_wp2
  go_end0
  refine ⟨rfl, (below_step K1.out HB.out).setCell (p := ⟨w.heap.size + 2, 0, none⟩) (by simp) _, by simp [World.setCell]; omega, ?_, ?_, ?_, ?_⟩
  · simp [go_sem, e1]
  · simp [go_sem, e2]
  · simp [go_sem, e3]
  · simp [go_sem, e4]

set_option maxRecDepth 100000 in
theorem implEscape_calls (k : Nat) (hk : k ≤ 3) (s : ByteArray) (hs : s.size ≤ 200) (w : World) (hC : Ctz w) (h7 : 7 ≤ w.heap.size) :
    Calls Tryd.prog 28 #[.string s, .int .i64 (k : Int)] w fun e w' => e = .returned (.string (escOut k s)) ∧ Below w.heap.size w w' := by
  have HC := Aside0.mk hC; clear hC
  go_enter Tryd.func28, Tryd.ntmps28
  go_wp2_with fail
  refine (safe_calls 63 _ _ (TextR w (escOut k s)) (fun _ => by simp [go_sem]) (esc1_calls k hk s hs w HC.out h7) ?_).mono ?_
  · rintro w' ⟨_, _, _, _, hc, hf⟩
    simpa using ⟨hc, hf⟩
  rintro e w2 ⟨rfl, w1, ⟨hb, hs1, hc, hf, _, _⟩, hb2⟩
  have f1 := (hb2.cell (p := ⟨w.heap.size + 2, 0, none⟩) (by simp)).trans hc
  have f2 := (hb2.frozen (p := ⟨w.heap.size + 2, 0, none⟩) (by simp)).trans hf
  have HF := Aside0.mk (hb.trans (hb2.mono (by simp; omega)))
  clear hb hs1 hc hf hb2
  go_wp2
  refine bodyPost_ret (v := .string (escOut k s)) (by simp [results, Tryd.results28, go_sem, f1, f2]) rfl ⟨rfl, ?_⟩
  exact HF.out.setCell (p := ⟨w.heap.size + 2, 0, none⟩) (by simp) _
end Go.Proofs.YtaajhionmdjhjaaDoor
